import JvmDerived
import JvmDerived.Pilot.@@N@@Statement
import JvmDerived.Pilot.@@N@@Code
set_option linter.unusedVariables false
set_option linter.unusedSimpArgs false
namespace Jvm.RoadKit
open Sem ClassFile Op Lib Jvm.Stand Jvm.Free Jvm.LawKit
section New
variable {p : Program} {l : Launch} {e : Env} {R : Room} {s : State} {m : MethodId} {args : Array Value} {below : List Frame} {meth : Method} {c : Code} {T : State} {locs : List Loc} {cells slots : Nat}
theorem retI (X : Stand p l e R s m args below meth c T locs cells slots) (hx : p.tables.exec = Jvm.exec) {pc : Nat} {Ls : Array Slot} {z : Int32} {rest : List Value} (hret : meth.sig.returnType = some .int) (hd : decode c.code pc = .ok (.ireturn, 1)) {fs : List Frame}
    (hl : ∀ (f : JFrame) (acts : List Action), f.method = m → f.locked = none → f.entered = [] → (doReturn e (T.setTop f) acts (some (.int z))).1 = T.setFrames fs) : Steps p.tables e below (T.setTop (mkF m pc Ls (.int z :: rest))) (T.setFrames fs) := by
  have hm' : T.vm.method? m = some meth := X.method'
  have hn : narrow .int (.int z) = .int z := rfl
  show Steps p.tables e below (T.setTop { method := m, pc := pc, locals := Ls, stack := _ :: rest, locked := none }) _
  jvm_step X.here [X.here.top, hx, hd, hm', hret, hn]
  first | (intro acts; rw [hl _ acts rfl rfl rfl]) | rw [hl _ _ rfl rfl rfl]
  exact Steps.refl _
end New
end Jvm.RoadKit
namespace Jvm.Pilot.@@N@@
open Jvm Jvm.ClassFile Sem Op Lib Jvm.Free Jvm.Stand Jvm.LawKit Jvm.RoadKit Bundle Jvm.Pilot.@@N@@.Jvm.D

theorem own_kp {h h' : Heap} (g : h' = h) : Keep h h' [] := by subst g; exact Keep.refl _ _
theorem own_kq {h h' : Heap} (ws : List Addr) (g : h' = h) : Keep h h' ws := by subst g; exact Keep.refl _ _
theorem own_fk {Z : State} {h h' : Heap} {a : Addr} {C n d : String} {v : Value} (F : Fld Z h a C n d v) (g : h' = h) : Fld Z h' a C n d v := by subst g; exact F
theorem own_ek {Z : State} {h h' : Heap} {a : Addr} {C : String} (F : Exa Z h a C) (g : h' = h) : Exa Z h' a C := by subst g; exact F
theorem own_zk {n : Nat} {h h' : Heap} (F : n ≤ h.size) (g : h' = h) : n ≤ h'.size := by subst g; exact F

def own_rem (x y : Int32) : Int32 := x - (x / y) * y
def own_div (x y : Int32) : Int32 := x / y
theorem own_and7 (x : Int32) : 0 ≤ (x &&& (2147483647 : Int32)).toInt := by
  have e : (x &&& (2147483647 : Int32)).toBitVec = x.toBitVec &&& 2147483647#32 := rfl
  have k : (x.toBitVec &&& 2147483647#32).toNat = x.toBitVec.toNat % 2147483648 := by rw [BitVec.toNat_and]; exact Nat.and_two_pow_sub_one_eq_mod _ 31
  show 0 ≤ (x &&& (2147483647 : Int32)).toBitVec.toInt
  rw [e, BitVec.toInt_eq_toNat_of_lt (by rw [k]; omega)]
  omega
theorem own_rem_toInt {x y : Int32} (hx : 0 ≤ x.toInt) (hy : 0 < y.toInt) : (own_rem x y).toInt = x.toInt % y.toInt := by
  unfold own_rem
  have h1 : (x / y).toInt = x.toInt / y.toInt := by
    rw [Int32.toInt_div, Int.tdiv_eq_ediv_of_nonneg hx]
    have a1 := Int.ediv_nonneg hx (Int.le_of_lt hy)
    have a2 : x.toInt / y.toInt ≤ x.toInt := Int.ediv_le_self _ hx
    have a3 := x.toInt_lt
    have := x.le_toInt
    exact Int.bmod_eq_of_le (by omega) (by omega)
  have h2 : (x / y * y).toInt = x.toInt / y.toInt * y.toInt := by
    rw [Int32.toInt_mul, h1]
    have b1 := Int.ediv_mul_le x.toInt (Int.ne_of_gt hy)
    have b2 := Int.mul_nonneg (Int.ediv_nonneg hx (Int.le_of_lt hy)) (Int.le_of_lt hy)
    have a3 := x.toInt_lt
    exact Int.bmod_eq_of_le (by omega) (by omega)
  rw [Int32.toInt_sub, h2]
  have b1 := Int.ediv_mul_le x.toInt (Int.ne_of_gt hy)
  have b2 := Int.mul_nonneg (Int.ediv_nonneg hx (Int.le_of_lt hy)) (Int.le_of_lt hy)
  have a3 := x.toInt_lt
  rw [Int.bmod_eq_of_le (by omega) (by omega), Int.emod_def, Int.mul_comm y.toInt]
theorem own_rem_in (x : Int32) {y : Int32} (hy : 0 < y.toInt) : 0 ≤ (own_rem (x &&& (2147483647 : Int32)) y).toInt ∧ (own_rem (x &&& (2147483647 : Int32)) y).toInt < y.toInt := by
  rw [own_rem_toInt (own_and7 x) hy]
  exact ⟨Int.emod_nonneg _ (Int.ne_of_gt hy), Int.emod_lt_of_pos _ hy⟩

theorem own_and7b (x : Int32) : 0 ≤ (x &&& (7 : Int32)).toInt := by
  have e : (x &&& (7 : Int32)).toBitVec = x.toBitVec &&& 7#32 := rfl
  have k : (x.toBitVec &&& 7#32).toNat = x.toBitVec.toNat % 8 := by rw [BitVec.toNat_and]; exact Nat.and_two_pow_sub_one_eq_mod _ 3
  show 0 ≤ (x &&& (7 : Int32)).toBitVec.toInt
  rw [e, BitVec.toInt_eq_toNat_of_lt (by rw [k]; omega)]
  omega
theorem own_n5 (x : Int32) : 0 ≤ (own_rem (x &&& (7 : Int32)) (5 : Int32)).toInt ∧ (own_rem (x &&& (7 : Int32)) (5 : Int32)).toInt ≤ 4 := by
  have e5 : (5 : Int32).toInt = 5 := rfl
  rw [own_rem_toInt (own_and7b x) (by decide), e5]
  omega
theorem own_cases {n : Int32} (h : 0 ≤ n.toInt ∧ n.toInt ≤ 4) : n = 0 ∨ n = 1 ∨ n = 2 ∨ n = 3 ∨ n = 4 := by
  have k : n.toInt = 0 ∨ n.toInt = 1 ∨ n.toInt = 2 ∨ n.toInt = 3 ∨ n.toInt = 4 := by omega
  rcases k with k | k | k | k | k
  · exact Or.inl (Int32.toInt.inj k)
  · exact Or.inr (Or.inl (Int32.toInt.inj k))
  · exact Or.inr (Or.inr (Or.inl (Int32.toInt.inj k)))
  · exact Or.inr (Or.inr (Or.inr (Or.inl (Int32.toInt.inj k))))
  · exact Or.inr (Or.inr (Or.inr (Or.inr (Int32.toInt.inj k))))
theorem own_nn {n : Int32} (h : 0 ≤ n.toInt) : ¬ n < 0 := by
  rw [Int32.lt_iff_toInt_lt]
  have e0 : (0 : Int32).toInt = 0 := rfl
  omega
theorem own_cap {n : Int32} (h : n.toInt ≤ 4) : n.toNatClampNeg ≤ 4 := by
  simp only [Int32.toNatClampNeg]; omega
theorem own_pos {n : Int32} (h : (0 : Int32) < n) : 0 < n.toInt := by
  rw [Int32.lt_iff_toInt_lt] at h
  have e0 : (0 : Int32).toInt = 0 := rfl
  omega
theorem own_nz {n : Int32} (h : 0 < n.toInt) : n ≠ 0 := fun e => by subst e; exact absurd h (by decide)
theorem own_lt0 {n : Int32} (h : 0 < n.toInt) : (0 : Int32) < n := by
  rw [Int32.lt_iff_toInt_lt]
  have e0 : (0 : Int32).toInt = 0 := rfl
  omega
theorem own_of (i : Nat) (h : i ≤ 4) : (Int32.ofNat i).toInt = i := by
  have k : i = 0 ∨ i = 1 ∨ i = 2 ∨ i = 3 ∨ i = 4 := by omega
  rcases k with rfl | rfl | rfl | rfl | rfl <;> decide
theorem own_ofN (i : Nat) (h : i ≤ 4) : (Int32.ofNat i).toNatClampNeg = i := by
  have k : i = 0 ∨ i = 1 ∨ i = 2 ∨ i = 3 ∨ i = 4 := by omega
  rcases k with rfl | rfl | rfl | rfl | rfl <;> decide
theorem own_up (i : Nat) (h : i < 4) : Int32.ofNat i + (1 : Int32) = Int32.ofNat (i + 1) := by
  have k : i = 0 ∨ i = 1 ∨ i = 2 ∨ i = 3 := by omega
  rcases k with rfl | rfl | rfl | rfl <;> decide
theorem own_nat {n : Int32} (h : ¬ n < 0) : n.toInt = (n.toNatClampNeg : Int) := by
  rw [Int32.lt_iff_toInt_lt] at h
  have e0 : (0 : Int32).toInt = 0 := rfl
  simp only [Int32.toNatClampNeg]; omega
theorem own_ltN {n : Int32} {i N : Nat} (hn : ¬ n < 0) (hN : n.toNatClampNeg = N) (h4 : N ≤ 4) (h : i < N) : Int32.ofNat i < n := by
  rw [Int32.lt_iff_toInt_lt, own_of i (by omega), own_nat hn, hN]; omega
theorem own_of0 (i : Nat) (h : i ≤ 4) : ¬ Int32.ofNat i < 0 := own_nn (by rw [own_of i h]; omega)
theorem own_end {n : Int32} {N : Nat} (hn : ¬ n < 0) (hN : n.toNatClampNeg = N) (h4 : N ≤ 4) : Int32.ofNat N = n := by
  apply Int32.toInt.inj
  rw [own_of N h4, own_nat hn, hN]
theorem own_irr (n : Int32) : ¬ n < n := by rw [Int32.lt_iff_toInt_lt]; omega
def own_emp (x : Int32) : Int32 := if x = 0 then 1 else 0

theorem own_ss (c : Cell) (i : Nat) (v : Value) : (c.setSlot i v).slots = c.slots.setIfInBounds i v := rfl
theorem own_gs (c : Cell) (i : Nat) (v : Value) (hi : i < c.slots.size) : (c.setSlot i v).slots[i]? = some v := by
  rw [own_ss]; exact Array.getElem?_setIfInBounds_self_of_lt hi
theorem own_gn (c : Cell) (i j : Nat) (v : Value) (h : i ≠ j) : (c.setSlot i v).slots[j]? = c.slots[j]? := by
  rw [own_ss]; exact Array.getElem?_setIfInBounds_ne h
theorem own_ak {Z : State} {h h' : Heap} {a : Addr} {c : Cell} {ty : FieldType} {ws : List Addr} (A : Arr Z h a c ty) (K : Keep h h' ws) (q : a ∉ ws) : Arr Z h' a c ty := ⟨K.2.1 a c A.1 q, A.2⟩
/-- the queue: its class and fields; the ring's first i places hold 0 .. i - 1, the marks' first j hold 1 -/
def own_St (Z : State) (h : Heap) (q r d : Addr) (N : Nat) (hd sz : Value) (i j : Nat) : Prop :=
  Exa Z h q "com/example/assignor/assignor/NodeQueue" ∧ Fld Z h q "com/example/assignor/assignor/NodeQueue" "ring" "[I" (.ref r) ∧ Fld Z h q "com/example/assignor/assignor/NodeQueue" "queued" "[Z" (.ref d) ∧ Fld Z h q "com/example/assignor/assignor/NodeQueue" "head" "I" hd ∧ Fld Z h q "com/example/assignor/assignor/NodeQueue" "size" "I" sz ∧
  (∃ cr : Cell, Arr Z h r cr .int ∧ cr.slots.size = N ∧ ∀ x, x < i → cr.slots[x]? = some (.int (Int32.ofNat x))) ∧ (∃ cd : Cell, Arr Z h d cd .boolean ∧ cd.slots.size = N ∧ ∀ x, x < j → cd.slots[x]? = some (.int 1))
theorem d1_0 : decode prog_15_method_1_code 0 = .ok (.aload_n 0, 1) := by decide +kernel
theorem d1_1 : decode prog_15_method_1_code 1 = .ok (.invokespecial 1, 3) := by decide +kernel
theorem d1_4 : decode prog_15_method_1_code 4 = .ok (.aload_n 0, 1) := by decide +kernel
theorem d1_5 : decode prog_15_method_1_code 5 = .ok (.iload_n 1, 1) := by decide +kernel
theorem d1_6 : decode prog_15_method_1_code 6 = .ok (.newarray .int, 2) := by decide +kernel
theorem d1_8 : decode prog_15_method_1_code 8 = .ok (.putfield 7, 3) := by decide +kernel
theorem d1_11 : decode prog_15_method_1_code 11 = .ok (.aload_n 0, 1) := by decide +kernel
theorem d1_12 : decode prog_15_method_1_code 12 = .ok (.iload_n 1, 1) := by decide +kernel
theorem d1_13 : decode prog_15_method_1_code 13 = .ok (.newarray .boolean, 2) := by decide +kernel
theorem d1_15 : decode prog_15_method_1_code 15 = .ok (.putfield 13, 3) := by decide +kernel
theorem d1_18 : decode prog_15_method_1_code 18 = .ok (.return_, 1) := by decide +kernel
theorem pn_1 : plainName "com/example/assignor/assignor/NodeQueue" = true := by first | (simp [plainName, overriddenIn]; done) | decide +kernel
theorem ef_1 (m : MethodId) (x0 : Addr) (x1 : Int32) : entryFrame m #[(.ref x0), (.int x1)] 2 = mkF m 0 #[.val (.ref x0), .val (.int x1)] [] := by first | (simp [entryFrame, mkF, argsToLocals, Value.category]; done) | rfl
def Q1 (Z : State) (a1 : Addr) (p2 : Int32) (u_ring_a1 : Value) (u_queued_a1 : Value) (h0 : Heap) (n0 : Nat) (v : Option Value) (h : Heap) (L : List Loc) : Prop := v = none ∧ Fr n0 L ∧ Keep h0 h [a1] ∧ Exa Z h a1 "com/example/assignor/assignor/NodeQueue" ∧ ∃ r d : Addr, n0 ≤ r ∧ n0 ≤ d ∧ a1 ≠ r ∧ a1 ≠ d ∧ r ≠ d ∧ Fld Z h a1 "com/example/assignor/assignor/NodeQueue" "ring" "[I" (.ref r) ∧ Fld Z h a1 "com/example/assignor/assignor/NodeQueue" "queued" "[Z" (.ref d) ∧ Fld Z h a1 "com/example/assignor/assignor/NodeQueue" "head" "I" (.int 0) ∧ Fld Z h a1 "com/example/assignor/assignor/NodeQueue" "size" "I" (.int 0) ∧ (∃ c : Cell, Arr Z h r c .int ∧ c.slots.size = p2.toNatClampNeg) ∧ (∃ c : Cell, Arr Z h d c .boolean ∧ c.slots.size = p2.toNatClampNeg ∧ ∀ x, x < c.slots.size → c.slots[x]? = some (.int 0))
set_option maxRecDepth 65536 in
set_option maxHeartbeats 40000000 in
theorem rm1 (l : Launch) (Z : State) (a0 : Array Value) (hw : ∀ d ∈ tables_1, d.before a0 Z = true) (ws : List Jvm.Cond) (a1 : Addr) (p2 : Int32) (u_ring_a1 : Value) (u_queued_a1 : Value) (h0 : Heap) (n0 : Nat) (Z0 : n0 ≤ h0.size) (E_a1 : Exa Z h0 a1 "com/example/assignor/assignor/NodeQueue") (F_ring_a1 : Fld Z h0 a1 "com/example/assignor/assignor/NodeQueue" "ring" "[I" u_ring_a1) (g_a1 : n0 ≤ a1) (F_queued_a1 : Fld Z h0 a1 "com/example/assignor/assignor/NodeQueue" "queued" "[Z" u_queued_a1) (F_head_a1 : Fld Z h0 a1 "com/example/assignor/assignor/NodeQueue" "head" "I" (.int 0)) (F_size_a1 : Fld Z h0 a1 "com/example/assignor/assignor/NodeQueue" "size" "I" (.int 0)) (hp2 : ¬ p2 < 0) (hcap : p2.toNatClampNeg ≤ 4) :
    MetFree l (⟨"com/example/assignor/assignor/NodeQueue", "<init>", "(I)V"⟩ : MethodName) (head1 (Jvm.Cond.code (⟨"com/example/assignor/assignor/NodeQueue", "<init>", "(I)V"⟩ : MethodName) prog_15_method_1_code 2 none :: ws) ({ frames := 1, cells := 2, slots := 8, locals := 12 } : Room)) (fun a U => a = #[(.ref a1), (.int p2)] ∧ Z.Warmed39 U.vm ∧ U.heap = h0) (fun _ _ _ _ _ => True) (fun _ U o U' => ∃ v L, o = .returned v ∧ Q1 Z a1 p2 u_ring_a1 u_queued_a1 h0 n0 v U'.heap L ∧ FrameEnd U o U' L ({ frames := 1, cells := 2, slots := 8, locals := 12 } : Room).cells ({ frames := 1, cells := 2, slots := 8, locals := 12 } : Room).slots) := by
  refine MetFree.of_bodySF (plainFor_of_name pn_1) hisR ?_
  intro p e s m args below meth c s₁ Bd hml0 hP hK
  obtain ⟨rfl, hZ, hh⟩ := hP
  have hx := Bd.exec
  have hby := Bd.bytes
  have hml : c.maxLocals = 2 := hml0
  have hown : s.vm.findClass "com/example/assignor/assignor/NodeQueue" = some m.cls := findClass_of_methodNamed Bd.named
  have hnm := (name_of_methodNamed Bd.named Bd.method).1
  have X0 : Stand p l e ({ frames := 1, cells := 2, slots := 8, locals := 12 } : Room) s m #[(.ref a1), (.int p2)] below meth c s₁ [] 0 0 := Stand.of_body Bd
  have e0 : s₁.heap = h0 := by rw [← hh, Bd.state]; rfl
  have N0 := Fr.nil n0
  have pre0 : ∀ t, Steps p.tables e below (s₁.setTop (mkF m 0 #[.val (.ref a1), .val (.int p2)] [])) t → Steps p.tables e below (s₁.setTop (entryFrame m #[(.ref a1), (.int p2)] 2)) t := fun t k => castTop (ef_1 m a1 p2) k
  obtain ⟨T3, X3, e3, st3⟩ := initO X0 hx hZ hown (hw _ (List.mem_of_getElem? (i := 6) rfl)) (hw _ (List.mem_of_getElem? (i := 7) rfl)) (hw _ (List.mem_of_getElem? (i := 8) rfl)) e0 (g := (mkF m 1 #[.val (.ref a1), .val (.int p2)] [(.ref a1)])) rfl (by rw [hml]; rfl) rfl (hb hby d1_1) (by decide) (W := 0) (by show 2 * 0 + _ ≤ _; exact Nat.le_of_eq rfl) (by decide)
  obtain ⟨T4, h4, k4, X4, e4, E4, A4, st4⟩ := newP X3 hx hZ (hw _ (List.mem_of_getElem? (i := 9) rfl)) e3 (g := (mkF m 6 #[.val (.ref a1), .val (.int p2)] [(.int p2), (.ref a1)])) rfl (hb hby d1_6) rfl hp2 (cap := 4) hcap (by decide) (by decide) (by decide)
  obtain ⟨b4, g4⟩ : ∃ z, z = h0.size := ⟨_, rfl⟩
  rw [← g4] at A4 st4
  have V_b4 := Arv.new A4 hp2
  have g_b4 : n0 ≤ b4 := Nat.le_trans Z0 (Nat.le_of_eq g4.symm)
  have sz_b4 : h0.size ≤ b4 := (Nat.le_trans (Keep.refl h0 [a1]).1 (Nat.le_of_eq g4.symm))
  have K4 : Keep h0 h4 [a1] := (Keep.refl h0 [a1]).ext E4
  obtain ⟨T5, h5, X5, e5, W5, st5⟩ := putF X4 hx hZ hown (host := "") (Or.inl (hw _ (List.mem_of_getElem? (i := 10) rfl))) Via.refl e4 (F_ring_a1.ext E4) (E_a1.ext E4) (Or.inr ⟨(hw _ (List.mem_of_getElem? (i := 11) rfl)), rfl, hnm⟩) (hw _ (List.mem_of_getElem? (i := 1) rfl)) (ty := (.array .int)) (by decide) rfl rfl (g := (mkF m 8 #[.val (.ref a1), .val (.int p2)] [(.ref b4), (.ref a1)])) rfl rfl (hb hby d1_8)
  have Fw5 := (F_ring_a1.ext E4).same W5
  have K5 : Keep h0 h5 [a1] := K4.wr W5 (Or.inl (List.mem_of_getElem? (i := 0) rfl))
  have N5 := Fr.snoc X5 N0 g_a1
  obtain ⟨T6, h6, k6, X6, e6, E6, A6, st6⟩ := newP X5 hx hZ (hw _ (List.mem_of_getElem? (i := 12) rfl)) e5 (g := (mkF m 13 #[.val (.ref a1), .val (.int p2)] [(.int p2), (.ref a1)])) rfl (hb hby d1_13) rfl hp2 (cap := 4) hcap (by decide) (by decide) (by decide)
  obtain ⟨b6, g6⟩ : ∃ z, z = h5.size := ⟨_, rfl⟩
  rw [← g6] at A6 st6
  have V_b6 := Arv.new A6 hp2
  have g_b6 : n0 ≤ b6 := Nat.le_trans (Nat.le_trans (Nat.le_trans Z0 E4.1) (Keep.of_wr W5).1) (Nat.le_of_eq g6.symm)
  have sz_b6 : h0.size ≤ b6 := (Nat.le_trans K5.1 (Nat.le_of_eq g6.symm))
  have K6 : Keep h0 h6 [a1] := K5.ext E6
  obtain ⟨T7, h7, X7, e7, W7, st7⟩ := putF X6 hx hZ hown (host := "") (Or.inl (hw _ (List.mem_of_getElem? (i := 13) rfl))) Via.refl e6 (((F_queued_a1.ext E4).other W5 (Or.inr (slot_ne (Or.inr (hw _ (List.mem_of_getElem? (i := 14) rfl))) (Or.inr (hw _ (List.mem_of_getElem? (i := 11) rfl))) (by decide) (t := (.array .boolean)) (t' := (.array .int)) (by decide) (by decide)))).ext E6) (((E_a1.ext E4).wr W5).ext E6) (Or.inr ⟨(hw _ (List.mem_of_getElem? (i := 14) rfl)), rfl, hnm⟩) (hw _ (List.mem_of_getElem? (i := 1) rfl)) (ty := (.array .boolean)) (by decide) rfl rfl (g := (mkF m 15 #[.val (.ref a1), .val (.int p2)] [(.ref b6), (.ref a1)])) rfl rfl (hb hby d1_15)
  have Fw7 := (((F_queued_a1.ext E4).other W5 (Or.inr (slot_ne (Or.inr (hw _ (List.mem_of_getElem? (i := 14) rfl))) (Or.inr (hw _ (List.mem_of_getElem? (i := 11) rfl))) (by decide) (t := (.array .boolean)) (t' := (.array .int)) (by decide) (by decide)))).ext E6).same W7
  have K7 : Keep h0 h7 [a1] := K6.wr W7 (Or.inl (List.mem_of_getElem? (i := 0) rfl))
  have N7 := Fr.snoc X7 N5 g_a1
  obtain ⟨fs, hr, hrun, hended, hW, hsame⟩ := X7.leave (v := none) (fun _ => rfl)
  refine ⟨_, _, pre0 _ ?_, hrun, hended, _, _, rfl, ?_, ⟨_, rfl⟩, hW, hsame.mono (by decide) (by decide)⟩
  · show Steps p.tables e below (s₁.setTop (mkF m 0 #[.val (.ref a1), .val (.int p2)] [])) _
    refine XS.aloadN X0.here hx rfl (hb hby d1_0) rfl rfl ?_
    show Steps p.tables e below (s₁.setTop (mkF m 1 #[.val (.ref a1), .val (.int p2)] [(.ref a1)])) _
    refine st3 _ ?_
    show Steps p.tables e below (T3.setTop (mkF m 4 #[.val (.ref a1), .val (.int p2)] [])) _
    refine XS.aloadN X3.here hx rfl (hb hby d1_4) rfl rfl ?_
    show Steps p.tables e below (T3.setTop (mkF m 5 #[.val (.ref a1), .val (.int p2)] [(.ref a1)])) _
    refine XS.iloadN X3.here hx rfl (hb hby d1_5) rfl ?_
    show Steps p.tables e below (T3.setTop (mkF m 6 #[.val (.ref a1), .val (.int p2)] [(.int p2), (.ref a1)])) _
    refine st4 _ ?_
    show Steps p.tables e below (T4.setTop (mkF m 8 #[.val (.ref a1), .val (.int p2)] [(.ref b4), (.ref a1)])) _
    refine st5 _ ?_
    show Steps p.tables e below (T5.setTop (mkF m 11 #[.val (.ref a1), .val (.int p2)] [])) _
    refine XS.aloadN X5.here hx rfl (hb hby d1_11) rfl rfl ?_
    show Steps p.tables e below (T5.setTop (mkF m 12 #[.val (.ref a1), .val (.int p2)] [(.ref a1)])) _
    refine XS.iloadN X5.here hx rfl (hb hby d1_12) rfl ?_
    show Steps p.tables e below (T5.setTop (mkF m 13 #[.val (.ref a1), .val (.int p2)] [(.int p2), (.ref a1)])) _
    refine st6 _ ?_
    show Steps p.tables e below (T6.setTop (mkF m 15 #[.val (.ref a1), .val (.int p2)] [(.ref b6), (.ref a1)])) _
    refine st7 _ ?_
    show Steps p.tables e below (T7.setTop (mkF m 18 #[.val (.ref a1), .val (.int p2)] [])) _
    exact X7.returnOut hx Bd.returns (hb hby d1_18) hr
  · show Q1 Z a1 p2 u_ring_a1 u_queued_a1 h0 n0 _ T7.heap _
    rw [e7]
    have ne4 : a1 ≠ b4 := by rw [g4]; exact Nat.ne_of_lt E_a1.lt
    have ne6 : a1 ≠ b6 := Nat.ne_of_lt (Nat.lt_of_lt_of_le E_a1.lt sz_b6)
    have ne46 : b4 ≠ b6 := by rw [g6, W5.size]; exact Nat.ne_of_lt V_b4.lt
    obtain ⟨c4, C4, -, S4, -, -, -⟩ := ((V_b4.other W5 (Ne.symm ne4)).ext E6).other W7 (Ne.symm ne4)
    obtain ⟨c6, C6, -, S6, -, H6, -⟩ := V_b6.other W7 (Ne.symm ne6)
    exact ⟨rfl, N7, K7, ((((E_a1.ext E4).wr W5).ext E6).wr W7), b4, b6, g_b4, g_b6, ne4, ne6, ne46, ((Fw5.ext E6).other W7 (Or.inr (slot_ne (Or.inr (hw _ (List.mem_of_getElem? (i := 11) rfl))) (Or.inr (hw _ (List.mem_of_getElem? (i := 14) rfl))) (by decide) (t := (.array .int)) (t' := (.array .boolean)) (by decide) (by decide)))), Fw7, ((((F_head_a1.ext E4).other W5 (Or.inr (slot_ne (Or.inl (hw _ (List.mem_of_getElem? (i := 21) rfl))) (Or.inr (hw _ (List.mem_of_getElem? (i := 11) rfl))) (by decide) (t := .int) (t' := (.array .int)) (by decide) (by decide)))).ext E6).other W7 (Or.inr (slot_ne (Or.inl (hw _ (List.mem_of_getElem? (i := 21) rfl))) (Or.inr (hw _ (List.mem_of_getElem? (i := 14) rfl))) (by decide) (t := .int) (t' := (.array .boolean)) (by decide) (by decide)))), ((((F_size_a1.ext E4).other W5 (Or.inr (slot_ne (Or.inl (hw _ (List.mem_of_getElem? (i := 23) rfl))) (Or.inr (hw _ (List.mem_of_getElem? (i := 11) rfl))) (by decide) (t := .int) (t' := (.array .int)) (by decide) (by decide)))).ext E6).other W7 (Or.inr (slot_ne (Or.inl (hw _ (List.mem_of_getElem? (i := 23) rfl))) (Or.inr (hw _ (List.mem_of_getElem? (i := 14) rfl))) (by decide) (t := .int) (t' := (.array .boolean)) (by decide) (by decide)))), ⟨c4, C4, S4⟩, ⟨c6, C6, S6, fun x hx => H6 x hx⟩⟩
theorem d4_11 : decode prog_15_method_3_code 11 = .ok (.iconst 0, 1) := by decide +kernel
theorem d4_0 : decode prog_15_method_3_code 0 = .ok (.aload_n 0, 1) := by decide +kernel
theorem d4_1 : decode prog_15_method_3_code 1 = .ok (.getfield 21, 3) := by decide +kernel
theorem d4_4 : decode prog_15_method_3_code 4 = .ok (.ifCond .ne 7, 3) := by decide +kernel
theorem d4_7 : decode prog_15_method_3_code 7 = .ok (.iconst 1, 1) := by decide +kernel
theorem d4_8 : decode prog_15_method_3_code 8 = .ok (.goto 4, 3) := by decide +kernel
theorem d4_12 : decode prog_15_method_3_code 12 = .ok (.ireturn, 1) := by decide +kernel
theorem pn_4 : plainName "com/example/assignor/assignor/NodeQueue" = true := by first | (simp [plainName, overriddenIn]; done) | decide +kernel
theorem ef_4 (m : MethodId) (x0 : Addr) : entryFrame m #[(.ref x0)] 1 = mkF m 0 #[.val (.ref x0)] [] := by first | (simp [entryFrame, mkF, argsToLocals, Value.category]; done) | rfl
def Q4 (Z : State) (a1 : Addr) (sz : Int32) (h0 : Heap) (n0 : Nat) (v : Option Value) (h : Heap) (L : List Loc) : Prop := v = some (.int (own_emp sz)) ∧ Fr n0 L ∧ h = h0
set_option maxRecDepth 65536 in
set_option maxHeartbeats 40000000 in
theorem rm4 (l : Launch) (Z : State) (a0 : Array Value) (hw : ∀ d ∈ tables_1, d.before a0 Z = true) (ws : List Jvm.Cond) (a1 : Addr) (sz : Int32) (h0 : Heap) (n0 : Nat) (Z0 : n0 ≤ h0.size) (F1 : Fld Z h0 a1 "com/example/assignor/assignor/NodeQueue" "size" "I" (.int sz)) :
    MetFree l (⟨"com/example/assignor/assignor/NodeQueue", "isEmpty", "()Z"⟩ : MethodName) (head1 (Jvm.Cond.code (⟨"com/example/assignor/assignor/NodeQueue", "isEmpty", "()Z"⟩ : MethodName) prog_15_method_3_code 1 (some .boolean) :: ws) ({ frames := 0, cells := 0, slots := 0, locals := 0 } : Room)) (fun a U => a = #[(.ref a1)] ∧ Z.Warmed39 U.vm ∧ U.heap = h0) (fun _ _ _ _ _ => True) (fun _ U o U' => ∃ v L, o = .returned v ∧ Q4 Z a1 sz h0 n0 v U'.heap L ∧ FrameEnd U o U' L ({ frames := 0, cells := 0, slots := 0, locals := 0 } : Room).cells ({ frames := 0, cells := 0, slots := 0, locals := 0 } : Room).slots) := by
  refine MetFree.of_bodySF (plainFor_of_name pn_4) hisR ?_
  intro p e s m args below meth c s₁ Bd hml0 hP hK
  obtain ⟨rfl, hZ, hh⟩ := hP
  have hx := Bd.exec
  have hby := Bd.bytes
  have hml : c.maxLocals = 1 := hml0
  have hown : s.vm.findClass "com/example/assignor/assignor/NodeQueue" = some m.cls := findClass_of_methodNamed Bd.named
  have hnm := (name_of_methodNamed Bd.named Bd.method).1
  have X0 : Stand p l e ({ frames := 0, cells := 0, slots := 0, locals := 0 } : Room) s m #[(.ref a1)] below meth c s₁ [] 0 0 := Stand.of_body Bd
  have e0 : s₁.heap = h0 := by rw [← hh, Bd.state]; rfl
  have N0 := Fr.nil n0
  have pre0 : ∀ t, Steps p.tables e below (s₁.setTop (mkF m 0 #[.val (.ref a1)] [])) t → Steps p.tables e below (s₁.setTop (entryFrame m #[(.ref a1)] 1)) t := fun t k => castTop (ef_4 m a1) k
  by_cases hc4 : sz = (0 : Int32)
  · have hc4_1 : sz = (0 : Int32) := hc4
    obtain ⟨T3_1, X3_1, e3_1, st3_1⟩ := getF X0 hx hZ hown (host := "") (Or.inl (hw _ (List.mem_of_getElem? (i := 22) rfl))) Via.refl e0 F1 (g := (mkF m 1 #[.val (.ref a1)] [(.ref a1)])) rfl rfl (hb hby d4_1)
    have st_1p : ∀ target, Steps p.tables e below (T3_1.setTop (mkF m 12 #[.val (.ref a1)] [(.int (1 : Int32))])) target → Steps p.tables e below (s₁.setTop (mkF m 0 #[.val (.ref a1)] [])) target := by
      intro target kt
      show Steps p.tables e below (s₁.setTop (mkF m 0 #[.val (.ref a1)] [])) _
      refine XS.aloadN X0.here hx rfl (hb hby d4_0) rfl rfl ?_
      show Steps p.tables e below (s₁.setTop (mkF m 1 #[.val (.ref a1)] [(.ref a1)])) _
      refine st3_1 _ ?_
      show Steps p.tables e below (T3_1.setTop (mkF m 4 #[.val (.ref a1)] [(.int sz)])) _
      refine XS.ifNo X3_1.here hx rfl (hb hby d4_4) rfl ((if0 _ _).trans (teq hc4_1).2) ?_
      show Steps p.tables e below (T3_1.setTop (mkF m 7 #[.val (.ref a1)] [])) _
      refine XS.iconst X3_1.here hx rfl (hb hby d4_7) ?_
      show Steps p.tables e below (T3_1.setTop (mkF m 8 #[.val (.ref a1)] [(.int (1 : Int32))])) _
      refine XS.goto X3_1.here hx rfl (pc0 := 8) (pc' := 12) rfl (hb hby d4_8) (by decide) (by decide) ?_
      exact kt
    obtain ⟨fs, hr, hrun, hended, hW, hsame⟩ := X3_1.leave (v := some (.int (1 : Int32))) (fun h => by rw [Bd.returns] at h; cases h)
    refine ⟨_, _, pre0 _ ?_, hrun, hended, _, _, rfl, ?_, ⟨_, rfl⟩, hW, hsame.mono (by decide) (by decide)⟩
    · show Steps p.tables e below (s₁.setTop (mkF m 0 #[.val (.ref a1)] [])) _
      refine st_1p _ ?_
      exact retN X3_1 hx (t := .boolean) Bd.returns (by simp) (hb hby d4_12) hr
    · show Q4 Z a1 sz h0 n0 _ T3_1.heap _
      rw [e3_1]
      exact ⟨by simp [own_emp, hc4], N0, rfl⟩
  · have hc4_2 : ¬ (sz = (0 : Int32)) := hc4
    obtain ⟨T3_2, X3_2, e3_2, st3_2⟩ := getF X0 hx hZ hown (host := "") (Or.inl (hw _ (List.mem_of_getElem? (i := 22) rfl))) Via.refl e0 F1 (g := (mkF m 1 #[.val (.ref a1)] [(.ref a1)])) rfl rfl (hb hby d4_1)
    have st_2p : ∀ target, Steps p.tables e below (T3_2.setTop (mkF m 12 #[.val (.ref a1)] [(.int (0 : Int32))])) target → Steps p.tables e below (s₁.setTop (mkF m 0 #[.val (.ref a1)] [])) target := by
      intro target kt
      show Steps p.tables e below (s₁.setTop (mkF m 0 #[.val (.ref a1)] [])) _
      refine XS.aloadN X0.here hx rfl (hb hby d4_0) rfl rfl ?_
      show Steps p.tables e below (s₁.setTop (mkF m 1 #[.val (.ref a1)] [(.ref a1)])) _
      refine st3_2 _ ?_
      show Steps p.tables e below (T3_2.setTop (mkF m 4 #[.val (.ref a1)] [(.int sz)])) _
      refine XS.ifYes X3_2.here hx rfl (pc0 := 4) (pc' := 11) rfl (hb hby d4_4) rfl ((if0 _ _).trans (feq hc4_2).2) (by decide) (by decide) ?_
      show Steps p.tables e below (T3_2.setTop (mkF m 11 #[.val (.ref a1)] [])) _
      refine XS.iconst X3_2.here hx rfl (hb hby d4_11) ?_
      exact kt
    obtain ⟨fs, hr, hrun, hended, hW, hsame⟩ := X3_2.leave (v := some (.int (0 : Int32))) (fun h => by rw [Bd.returns] at h; cases h)
    refine ⟨_, _, pre0 _ ?_, hrun, hended, _, _, rfl, ?_, ⟨_, rfl⟩, hW, hsame.mono (by decide) (by decide)⟩
    · show Steps p.tables e below (s₁.setTop (mkF m 0 #[.val (.ref a1)] [])) _
      refine st_2p _ ?_
      exact retN X3_2 hx (t := .boolean) Bd.returns (by simp) (hb hby d4_12) hr
    · show Q4 Z a1 sz h0 n0 _ T3_2.heap _
      rw [e3_2]
      exact ⟨by simp [own_emp, hc4], N0, rfl⟩
theorem d5_0 : decode prog_15_method_5_code 0 = .ok (.aload_n 0, 1) := by decide +kernel
theorem d5_1 : decode prog_15_method_5_code 1 = .ok (.getfield 13, 3) := by decide +kernel
theorem d5_4 : decode prog_15_method_5_code 4 = .ok (.iload_n 1, 1) := by decide +kernel
theorem d5_5 : decode prog_15_method_5_code 5 = .ok (.baload, 1) := by decide +kernel
theorem d5_6 : decode prog_15_method_5_code 6 = .ok (.ifCond .ne 41, 3) := by decide +kernel
theorem d5_9 : decode prog_15_method_5_code 9 = .ok (.aload_n 0, 1) := by decide +kernel
theorem d5_10 : decode prog_15_method_5_code 10 = .ok (.getfield 7, 3) := by decide +kernel
theorem d5_13 : decode prog_15_method_5_code 13 = .ok (.aload_n 0, 1) := by decide +kernel
theorem d5_14 : decode prog_15_method_5_code 14 = .ok (.getfield 17, 3) := by decide +kernel
theorem d5_17 : decode prog_15_method_5_code 17 = .ok (.aload_n 0, 1) := by decide +kernel
theorem d5_18 : decode prog_15_method_5_code 18 = .ok (.getfield 21, 3) := by decide +kernel
theorem d5_21 : decode prog_15_method_5_code 21 = .ok (.iadd, 1) := by decide +kernel
theorem d5_22 : decode prog_15_method_5_code 22 = .ok (.aload_n 0, 1) := by decide +kernel
theorem d5_23 : decode prog_15_method_5_code 23 = .ok (.getfield 7, 3) := by decide +kernel
theorem d5_26 : decode prog_15_method_5_code 26 = .ok (.arraylength, 1) := by decide +kernel
theorem d5_27 : decode prog_15_method_5_code 27 = .ok (.irem, 1) := by decide +kernel
theorem d5_28 : decode prog_15_method_5_code 28 = .ok (.iload_n 1, 1) := by decide +kernel
theorem d5_29 : decode prog_15_method_5_code 29 = .ok (.iastore, 1) := by decide +kernel
theorem d5_30 : decode prog_15_method_5_code 30 = .ok (.aload_n 0, 1) := by decide +kernel
theorem d5_31 : decode prog_15_method_5_code 31 = .ok (.getfield 13, 3) := by decide +kernel
theorem d5_34 : decode prog_15_method_5_code 34 = .ok (.iload_n 1, 1) := by decide +kernel
theorem d5_35 : decode prog_15_method_5_code 35 = .ok (.iconst 1, 1) := by decide +kernel
theorem d5_36 : decode prog_15_method_5_code 36 = .ok (.bastore, 1) := by decide +kernel
theorem d5_37 : decode prog_15_method_5_code 37 = .ok (.aload_n 0, 1) := by decide +kernel
theorem d5_38 : decode prog_15_method_5_code 38 = .ok (.dup, 1) := by decide +kernel
theorem d5_39 : decode prog_15_method_5_code 39 = .ok (.getfield 21, 3) := by decide +kernel
theorem d5_42 : decode prog_15_method_5_code 42 = .ok (.iconst 1, 1) := by decide +kernel
theorem d5_43 : decode prog_15_method_5_code 43 = .ok (.iadd, 1) := by decide +kernel
theorem d5_44 : decode prog_15_method_5_code 44 = .ok (.putfield 21, 3) := by decide +kernel
theorem d5_47 : decode prog_15_method_5_code 47 = .ok (.return_, 1) := by decide +kernel
theorem pn_5 : plainName "com/example/assignor/assignor/NodeQueue" = true := by first | (simp [plainName, overriddenIn]; done) | decide +kernel
theorem ef_5 (m : MethodId) (x0 : Addr) (x1 : Int32) : entryFrame m #[(.ref x0), (.int x1)] 2 = mkF m 0 #[.val (.ref x0), .val (.int x1)] [] := by first | (simp [entryFrame, mkF, argsToLocals, Value.category]; done) | rfl
def Q5 (Z : State) (a1 : Addr) (p2 : Int32) (w3 : Addr) (w5 : Int32) (cl_w3 : Cell) (w6 : Addr) (w8 : Int32) (w10 : Int32) (cl_w6 : Cell) (z_w6 : Int32) (h0 : Heap) (n0 : Nat) (v : Option Value) (h : Heap) (L : List Loc) : Prop := v = none ∧ Fr n0 L ∧ Keep h0 h [w6, w3, a1] ∧ Exa Z h a1 "com/example/assignor/assignor/NodeQueue" ∧ Fld Z h a1 "com/example/assignor/assignor/NodeQueue" "ring" "[I" (.ref w6) ∧ Fld Z h a1 "com/example/assignor/assignor/NodeQueue" "queued" "[Z" (.ref w3) ∧ Fld Z h a1 "com/example/assignor/assignor/NodeQueue" "head" "I" (.int w8) ∧ Fld Z h a1 "com/example/assignor/assignor/NodeQueue" "size" "I" (.int (w10 + (1 : Int32))) ∧ (∃ c : Cell, Arr Z h w6 c .int ∧ c.slots.size = cl_w6.slots.size ∧ c.slots[(own_rem (w8 + w10) z_w6).toNatClampNeg]? = some (.int p2)) ∧ (∃ c : Cell, Arr Z h w3 c .boolean ∧ c.slots.size = cl_w3.slots.size)
set_option maxRecDepth 65536 in
set_option maxHeartbeats 40000000 in
theorem rm5 (l : Launch) (Z : State) (a0 : Array Value) (hw : ∀ d ∈ tables_1, d.before a0 Z = true) (ws : List Jvm.Cond) (a1 : Addr) (p2 : Int32) (w3 : Addr) (w5 : Int32) (cl_w3 : Cell) (w6 : Addr) (w8 : Int32) (w10 : Int32) (cl_w6 : Cell) (z_w6 : Int32) (h0 : Heap) (n0 : Nat) (Z0 : n0 ≤ h0.size) (F_queued_a1 : Fld Z h0 a1 "com/example/assignor/assignor/NodeQueue" "queued" "[Z" (.ref w3)) (Ar_w3 : Arr Z h0 w3 cl_w3 .boolean) (hin5 : ¬ (p2 < 0 ∨ cl_w3.slots.size ≤ (p2).toNatClampNeg)) (hat5 : cl_w3.slots[(p2).toNatClampNeg]? = some (.int w5)) (F_ring_a1 : Fld Z h0 a1 "com/example/assignor/assignor/NodeQueue" "ring" "[I" (.ref w6)) (F_head_a1 : Fld Z h0 a1 "com/example/assignor/assignor/NodeQueue" "head" "I" (.int w8)) (F_size_a1 : Fld Z h0 a1 "com/example/assignor/assignor/NodeQueue" "size" "I" (.int w10)) (Ar_w6 : Arr Z h0 w6 cl_w6 .int) (S_w6 : cl_w6.slots.size = z_w6.toNatClampNeg) (N_w6 : ¬ z_w6 < 0) (hy27 : z_w6 ≠ 0) (hin29 : ¬ ((own_rem (w8 + w10) z_w6) < 0 ∨ cl_w6.slots.size ≤ ((own_rem (w8 + w10) z_w6)).toNatClampNeg)) (g_w6 : n0 ≤ w6) (hin36 : ¬ (p2 < 0 ∨ cl_w3.slots.size ≤ (p2).toNatClampNeg)) (g_w3 : n0 ≤ w3) (E_a1 : Exa Z h0 a1 "com/example/assignor/assignor/NodeQueue") (g_a1 : n0 ≤ a1) (hc6 : w5 = (0 : Int32)) (ne6 : a1 ≠ w6) (ne3 : a1 ≠ w3) (ne63 : w6 ≠ w3) :
    MetFree l (⟨"com/example/assignor/assignor/NodeQueue", "offer", "(I)V"⟩ : MethodName) (head1 (Jvm.Cond.code (⟨"com/example/assignor/assignor/NodeQueue", "offer", "(I)V"⟩ : MethodName) prog_15_method_5_code 2 none :: ws) ({ frames := 0, cells := 0, slots := 0, locals := 0 } : Room)) (fun a U => a = #[(.ref a1), (.int p2)] ∧ Z.Warmed39 U.vm ∧ U.heap = h0) (fun _ _ _ _ _ => True) (fun _ U o U' => ∃ v L, o = .returned v ∧ Q5 Z a1 p2 w3 w5 cl_w3 w6 w8 w10 cl_w6 z_w6 h0 n0 v U'.heap L ∧ FrameEnd U o U' L ({ frames := 0, cells := 0, slots := 0, locals := 0 } : Room).cells ({ frames := 0, cells := 0, slots := 0, locals := 0 } : Room).slots) := by
  refine MetFree.of_bodySF (plainFor_of_name pn_5) hisR ?_
  intro p e s m args below meth c s₁ Bd hml0 hP hK
  obtain ⟨rfl, hZ, hh⟩ := hP
  have hx := Bd.exec
  have hby := Bd.bytes
  have hml : c.maxLocals = 2 := hml0
  have hown : s.vm.findClass "com/example/assignor/assignor/NodeQueue" = some m.cls := findClass_of_methodNamed Bd.named
  have hnm := (name_of_methodNamed Bd.named Bd.method).1
  have X0 : Stand p l e ({ frames := 0, cells := 0, slots := 0, locals := 0 } : Room) s m #[(.ref a1), (.int p2)] below meth c s₁ [] 0 0 := Stand.of_body Bd
  have e0 : s₁.heap = h0 := by rw [← hh, Bd.state]; rfl
  have N0 := Fr.nil n0
  have pre0 : ∀ t, Steps p.tables e below (s₁.setTop (mkF m 0 #[.val (.ref a1), .val (.int p2)] [])) t → Steps p.tables e below (s₁.setTop (entryFrame m #[(.ref a1), (.int p2)] 2)) t := fun t k => castTop (ef_5 m a1 p2) k
  obtain ⟨T4, X4, e4, st4⟩ := getF X0 hx hZ hown (host := "") (Or.inl (hw _ (List.mem_of_getElem? (i := 13) rfl))) Via.refl e0 F_queued_a1 (g := (mkF m 1 #[.val (.ref a1), .val (.int p2)] [(.ref a1)])) rfl rfl (hb hby d5_1)
  obtain ⟨T7, X7, e7, st7⟩ := getF X4 hx hZ hown (host := "") (Or.inl (hw _ (List.mem_of_getElem? (i := 10) rfl))) Via.refl e4 F_ring_a1 (g := (mkF m 10 #[.val (.ref a1), .val (.int p2)] [(.ref a1)])) rfl rfl (hb hby d5_10)
  obtain ⟨T9, X9, e9, st9⟩ := getF X7 hx hZ hown (host := "") (Or.inl (hw _ (List.mem_of_getElem? (i := 20) rfl))) Via.refl e7 F_head_a1 (g := (mkF m 14 #[.val (.ref a1), .val (.int p2)] [(.ref a1), (.ref w6)])) rfl rfl (hb hby d5_14)
  obtain ⟨T11, X11, e11, st11⟩ := getF X9 hx hZ hown (host := "") (Or.inl (hw _ (List.mem_of_getElem? (i := 22) rfl))) Via.refl e9 F_size_a1 (g := (mkF m 18 #[.val (.ref a1), .val (.int p2)] [(.ref a1), (.int w8), (.ref w6)])) rfl rfl (hb hby d5_18)
  obtain ⟨T12, X12, e12, st12⟩ := getF X11 hx hZ hown (host := "") (Or.inl (hw _ (List.mem_of_getElem? (i := 10) rfl))) Via.refl e11 F_ring_a1 (g := (mkF m 23 #[.val (.ref a1), .val (.int p2)] [(.ref a1), (.int (w8 + w10)), (.ref w6)])) rfl rfl (hb hby d5_23)
  obtain ⟨T13, h13, X13, e13, W13, st13⟩ := stI X12 hx hZ e12 Ar_w6 (j := (own_rem (w8 + w10) z_w6)) hin29 (g := (mkF m 29 #[.val (.ref a1), .val (.int p2)] [(.int p2), (.int (own_rem (w8 + w10) z_w6)), (.ref w6)])) rfl rfl (hb hby d5_29)
  have N13 := Fr.snoc X13 N0 g_w6
  have K13 : Keep h0 h13 [w6, w3, a1] := (Keep.refl h0 [w6, w3, a1]).wr W13 (Or.inl (List.mem_of_getElem? (i := 0) rfl))
  obtain ⟨T14, X14, e14, st14⟩ := getF X13 hx hZ hown (host := "") (Or.inl (hw _ (List.mem_of_getElem? (i := 13) rfl))) Via.refl e13 (F_queued_a1.other W13 (Or.inl ne6)) (g := (mkF m 31 #[.val (.ref a1), .val (.int p2)] [(.ref a1)])) rfl rfl (hb hby d5_31)
  obtain ⟨T15, h15, X15, e15, W15, st15⟩ := stZ X14 hx hZ e14 (Ar_w3.other W13 (Ne.symm ne63)) (j := p2) hin36 (g := (mkF m 36 #[.val (.ref a1), .val (.int p2)] [(.int (1 : Int32)), (.int p2), (.ref w3)])) rfl rfl (hb hby d5_36)
  have N15 := Fr.snoc X15 N13 g_w3
  have K15 : Keep h0 h15 [w6, w3, a1] := K13.wr W15 (Or.inl (List.mem_of_getElem? (i := 1) rfl))
  obtain ⟨T16, X16, e16, st16⟩ := getF X15 hx hZ hown (host := "") (Or.inl (hw _ (List.mem_of_getElem? (i := 22) rfl))) Via.refl e15 ((F_size_a1.other W13 (Or.inl ne6)).other W15 (Or.inl ne3)) (g := (mkF m 39 #[.val (.ref a1), .val (.int p2)] [(.ref a1), (.ref a1)])) rfl rfl (hb hby d5_39)
  obtain ⟨T17, h17, X17, e17, W17, st17⟩ := putF X16 hx hZ hown (host := "") (Or.inl (hw _ (List.mem_of_getElem? (i := 22) rfl))) Via.refl e16 ((F_size_a1.other W13 (Or.inl ne6)).other W15 (Or.inl ne3)) ((E_a1.wr W13).wr W15) (Or.inl (hw _ (List.mem_of_getElem? (i := 23) rfl))) (hw _ (List.mem_of_getElem? (i := 1) rfl)) (ty := .int) (by decide) rfl rfl (g := (mkF m 44 #[.val (.ref a1), .val (.int p2)] [(.int (w10 + (1 : Int32))), (.ref a1)])) rfl rfl (hb hby d5_44)
  have Fw17 := ((F_size_a1.other W13 (Or.inl ne6)).other W15 (Or.inl ne3)).same W17
  have K17 : Keep h0 h17 [w6, w3, a1] := K15.wr W17 (Or.inl (List.mem_of_getElem? (i := 2) rfl))
  have N17 := Fr.snoc X17 N15 g_a1
  obtain ⟨fs, hr, hrun, hended, hW, hsame⟩ := X17.leave (v := none) (fun _ => rfl)
  refine ⟨_, _, pre0 _ ?_, hrun, hended, _, _, rfl, ?_, ⟨_, rfl⟩, hW, hsame.mono (by decide) (by decide)⟩
  · show Steps p.tables e below (s₁.setTop (mkF m 0 #[.val (.ref a1), .val (.int p2)] [])) _
    refine XS.aloadN X0.here hx rfl (hb hby d5_0) rfl rfl ?_
    show Steps p.tables e below (s₁.setTop (mkF m 1 #[.val (.ref a1), .val (.int p2)] [(.ref a1)])) _
    refine st4 _ ?_
    show Steps p.tables e below (T4.setTop (mkF m 4 #[.val (.ref a1), .val (.int p2)] [(.ref w3)])) _
    refine XS.iloadN X4.here hx rfl (hb hby d5_4) rfl ?_
    show Steps p.tables e below (T4.setTop (mkF m 5 #[.val (.ref a1), .val (.int p2)] [(.int p2), (.ref w3)])) _
    refine X4.baloadBooleans hx (j := p2) (v := (.int w5)) (by rw [e4]; exact Ar_w3.1) (State.isArrayOf_alike hZ.alike Ar_w3.2.1) Ar_w3.2.2 hin5 hat5 (g := (mkF m 5 #[.val (.ref a1), .val (.int p2)] [(.int p2), (.ref w3)])) rfl rfl (hb hby d5_5) _ ?_
    show Steps p.tables e below (T4.setTop (mkF m 6 #[.val (.ref a1), .val (.int p2)] [(.int w5)])) _
    refine XS.ifNo X4.here hx rfl (hb hby d5_6) rfl ((if0 _ _).trans (teq hc6).2) ?_
    show Steps p.tables e below (T4.setTop (mkF m 9 #[.val (.ref a1), .val (.int p2)] [])) _
    refine XS.aloadN X4.here hx rfl (hb hby d5_9) rfl rfl ?_
    show Steps p.tables e below (T4.setTop (mkF m 10 #[.val (.ref a1), .val (.int p2)] [(.ref a1)])) _
    refine st7 _ ?_
    show Steps p.tables e below (T7.setTop (mkF m 13 #[.val (.ref a1), .val (.int p2)] [(.ref w6)])) _
    refine XS.aloadN X7.here hx rfl (hb hby d5_13) rfl rfl ?_
    show Steps p.tables e below (T7.setTop (mkF m 14 #[.val (.ref a1), .val (.int p2)] [(.ref a1), (.ref w6)])) _
    refine st9 _ ?_
    show Steps p.tables e below (T9.setTop (mkF m 17 #[.val (.ref a1), .val (.int p2)] [(.int w8), (.ref w6)])) _
    refine XS.aloadN X9.here hx rfl (hb hby d5_17) rfl rfl ?_
    show Steps p.tables e below (T9.setTop (mkF m 18 #[.val (.ref a1), .val (.int p2)] [(.ref a1), (.int w8), (.ref w6)])) _
    refine st11 _ ?_
    show Steps p.tables e below (T11.setTop (mkF m 21 #[.val (.ref a1), .val (.int p2)] [(.int w10), (.int w8), (.ref w6)])) _
    refine XS.iadd X11.here hx rfl (hb hby d5_21) rfl ?_
    show Steps p.tables e below (T11.setTop (mkF m 22 #[.val (.ref a1), .val (.int p2)] [(.int (w8 + w10)), (.ref w6)])) _
    refine XS.aloadN X11.here hx rfl (hb hby d5_22) rfl rfl ?_
    show Steps p.tables e below (T11.setTop (mkF m 23 #[.val (.ref a1), .val (.int p2)] [(.ref a1), (.int (w8 + w10)), (.ref w6)])) _
    refine st12 _ ?_
    show Steps p.tables e below (T12.setTop (mkF m 26 #[.val (.ref a1), .val (.int p2)] [(.ref w6), (.int (w8 + w10)), (.ref w6)])) _
    refine X12.arraylength hx (by rw [e12]; exact Ar_w6.1) (State.isArrayOf_alike hZ.alike Ar_w6.2.1) (g := (mkF m 26 #[.val (.ref a1), .val (.int p2)] [(.ref w6), (.int (w8 + w10)), (.ref w6)])) rfl rfl (hb hby d5_26) _ ?_
    rw [len_of S_w6 N_w6]
    show Steps p.tables e below (T12.setTop (mkF m 27 #[.val (.ref a1), .val (.int p2)] [(.int z_w6), (.int (w8 + w10)), (.ref w6)])) _
    refine XS.irem X12.here hx rfl (hb hby d5_27) rfl hy27 ?_
    show Steps p.tables e below (T12.setTop (mkF m 28 #[.val (.ref a1), .val (.int p2)] [(.int (own_rem (w8 + w10) z_w6)), (.ref w6)])) _
    refine XS.iloadN X12.here hx rfl (hb hby d5_28) rfl ?_
    show Steps p.tables e below (T12.setTop (mkF m 29 #[.val (.ref a1), .val (.int p2)] [(.int p2), (.int (own_rem (w8 + w10) z_w6)), (.ref w6)])) _
    refine st13 _ ?_
    show Steps p.tables e below (T13.setTop (mkF m 30 #[.val (.ref a1), .val (.int p2)] [])) _
    refine XS.aloadN X13.here hx rfl (hb hby d5_30) rfl rfl ?_
    show Steps p.tables e below (T13.setTop (mkF m 31 #[.val (.ref a1), .val (.int p2)] [(.ref a1)])) _
    refine st14 _ ?_
    show Steps p.tables e below (T14.setTop (mkF m 34 #[.val (.ref a1), .val (.int p2)] [(.ref w3)])) _
    refine XS.iloadN X14.here hx rfl (hb hby d5_34) rfl ?_
    show Steps p.tables e below (T14.setTop (mkF m 35 #[.val (.ref a1), .val (.int p2)] [(.int p2), (.ref w3)])) _
    refine XS.iconst X14.here hx rfl (hb hby d5_35) ?_
    show Steps p.tables e below (T14.setTop (mkF m 36 #[.val (.ref a1), .val (.int p2)] [(.int (1 : Int32)), (.int p2), (.ref w3)])) _
    refine st15 _ ?_
    show Steps p.tables e below (T15.setTop (mkF m 37 #[.val (.ref a1), .val (.int p2)] [])) _
    refine XS.aloadN X15.here hx rfl (hb hby d5_37) rfl rfl ?_
    show Steps p.tables e below (T15.setTop (mkF m 38 #[.val (.ref a1), .val (.int p2)] [(.ref a1)])) _
    refine XS.dup X15.here hx rfl (hb hby d5_38) rfl rfl ?_
    show Steps p.tables e below (T15.setTop (mkF m 39 #[.val (.ref a1), .val (.int p2)] [(.ref a1), (.ref a1)])) _
    refine st16 _ ?_
    show Steps p.tables e below (T16.setTop (mkF m 42 #[.val (.ref a1), .val (.int p2)] [(.int w10), (.ref a1)])) _
    refine XS.iconst X16.here hx rfl (hb hby d5_42) ?_
    show Steps p.tables e below (T16.setTop (mkF m 43 #[.val (.ref a1), .val (.int p2)] [(.int (1 : Int32)), (.int w10), (.ref a1)])) _
    refine XS.iadd X16.here hx rfl (hb hby d5_43) rfl ?_
    show Steps p.tables e below (T16.setTop (mkF m 44 #[.val (.ref a1), .val (.int p2)] [(.int (w10 + (1 : Int32))), (.ref a1)])) _
    refine st17 _ ?_
    show Steps p.tables e below (T17.setTop (mkF m 47 #[.val (.ref a1), .val (.int p2)] [])) _
    exact X17.returnOut hx Bd.returns (hb hby d5_47) hr
  · show Q5 Z a1 p2 w3 w5 cl_w3 w6 w8 w10 cl_w6 z_w6 h0 n0 _ T17.heap _
    rw [e17]
    exact ⟨rfl, N17, K17, ((E_a1.wr W13).wr W15).wr W17, (((F_ring_a1.other W13 (Or.inl ne6)).other W15 (Or.inl ne3)).other W17 (Or.inr (slot_ne (Or.inr (hw _ (List.mem_of_getElem? (i := 11) rfl))) (Or.inl (hw _ (List.mem_of_getElem? (i := 23) rfl))) (by decide) (t := (.array .int)) (t' := .int) (by decide) (by decide)))), (((F_queued_a1.other W13 (Or.inl ne6)).other W15 (Or.inl ne3)).other W17 (Or.inr (slot_ne (Or.inr (hw _ (List.mem_of_getElem? (i := 14) rfl))) (Or.inl (hw _ (List.mem_of_getElem? (i := 23) rfl))) (by decide) (t := (.array .boolean)) (t' := .int) (by decide) (by decide)))), (((F_head_a1.other W13 (Or.inl ne6)).other W15 (Or.inl ne3)).other W17 (Or.inr (slot_ne (Or.inl (hw _ (List.mem_of_getElem? (i := 21) rfl))) (Or.inl (hw _ (List.mem_of_getElem? (i := 23) rfl))) (by decide) (t := .int) (t' := .int) (by decide) (by decide)))), Fw17, ⟨_, ((Ar_w6.same W13).other W15 ne63).other W17 (Ne.symm ne6), sz_set _ _ _, own_gs _ _ _ (Nat.lt_of_not_le fun q => hin29 (Or.inr q))⟩, ⟨_, ((Ar_w3.other W13 (Ne.symm ne63)).same W15).other W17 (Ne.symm ne3), sz_set _ _ _⟩⟩

def Q5n (Z : State) (a1 : Addr) (p2 : Int32) (w3 : Addr) (w5 : Int32) (cl_w3 : Cell) (h0 : Heap) (n0 : Nat) (v : Option Value) (h : Heap) (L : List Loc) : Prop := v = none ∧ Fr n0 L ∧ h = h0
set_option maxRecDepth 65536 in
set_option maxHeartbeats 40000000 in
theorem rm5n (l : Launch) (Z : State) (a0 : Array Value) (hw : ∀ d ∈ tables_1, d.before a0 Z = true) (ws : List Jvm.Cond) (a1 : Addr) (p2 : Int32) (w3 : Addr) (w5 : Int32) (cl_w3 : Cell) (h0 : Heap) (n0 : Nat) (Z0 : n0 ≤ h0.size) (F_queued_a1 : Fld Z h0 a1 "com/example/assignor/assignor/NodeQueue" "queued" "[Z" (.ref w3)) (Ar_w3 : Arr Z h0 w3 cl_w3 .boolean) (hin5 : ¬ (p2 < 0 ∨ cl_w3.slots.size ≤ (p2).toNatClampNeg)) (hat5 : cl_w3.slots[(p2).toNatClampNeg]? = some (.int w5)) (hc6 : ¬ (w5 = (0 : Int32))) :
    MetFree l (⟨"com/example/assignor/assignor/NodeQueue", "offer", "(I)V"⟩ : MethodName) (head1 (Jvm.Cond.code (⟨"com/example/assignor/assignor/NodeQueue", "offer", "(I)V"⟩ : MethodName) prog_15_method_5_code 2 none :: ws) ({ frames := 0, cells := 0, slots := 0, locals := 0 } : Room)) (fun a U => a = #[(.ref a1), (.int p2)] ∧ Z.Warmed39 U.vm ∧ U.heap = h0) (fun _ _ _ _ _ => True) (fun _ U o U' => ∃ v L, o = .returned v ∧ Q5n Z a1 p2 w3 w5 cl_w3 h0 n0 v U'.heap L ∧ FrameEnd U o U' L ({ frames := 0, cells := 0, slots := 0, locals := 0 } : Room).cells ({ frames := 0, cells := 0, slots := 0, locals := 0 } : Room).slots) := by
  refine MetFree.of_bodySF (plainFor_of_name pn_5) hisR ?_
  intro p e s m args below meth c s₁ Bd hml0 hP hK
  obtain ⟨rfl, hZ, hh⟩ := hP
  have hx := Bd.exec
  have hby := Bd.bytes
  have hml : c.maxLocals = 2 := hml0
  have hown : s.vm.findClass "com/example/assignor/assignor/NodeQueue" = some m.cls := findClass_of_methodNamed Bd.named
  have hnm := (name_of_methodNamed Bd.named Bd.method).1
  have X0 : Stand p l e ({ frames := 0, cells := 0, slots := 0, locals := 0 } : Room) s m #[(.ref a1), (.int p2)] below meth c s₁ [] 0 0 := Stand.of_body Bd
  have e0 : s₁.heap = h0 := by rw [← hh, Bd.state]; rfl
  have N0 := Fr.nil n0
  have pre0 : ∀ t, Steps p.tables e below (s₁.setTop (mkF m 0 #[.val (.ref a1), .val (.int p2)] [])) t → Steps p.tables e below (s₁.setTop (entryFrame m #[(.ref a1), (.int p2)] 2)) t := fun t k => castTop (ef_5 m a1 p2) k
  obtain ⟨T4, X4, e4, st4⟩ := getF X0 hx hZ hown (host := "") (Or.inl (hw _ (List.mem_of_getElem? (i := 13) rfl))) Via.refl e0 F_queued_a1 (g := (mkF m 1 #[.val (.ref a1), .val (.int p2)] [(.ref a1)])) rfl rfl (hb hby d5_1)
  obtain ⟨fs, hr, hrun, hended, hW, hsame⟩ := X4.leave (v := none) (fun _ => rfl)
  refine ⟨_, _, pre0 _ ?_, hrun, hended, _, _, rfl, ?_, ⟨_, rfl⟩, hW, hsame.mono (by decide) (by decide)⟩
  · show Steps p.tables e below (s₁.setTop (mkF m 0 #[.val (.ref a1), .val (.int p2)] [])) _
    refine XS.aloadN X0.here hx rfl (hb hby d5_0) rfl rfl ?_
    show Steps p.tables e below (s₁.setTop (mkF m 1 #[.val (.ref a1), .val (.int p2)] [(.ref a1)])) _
    refine st4 _ ?_
    show Steps p.tables e below (T4.setTop (mkF m 4 #[.val (.ref a1), .val (.int p2)] [(.ref w3)])) _
    refine XS.iloadN X4.here hx rfl (hb hby d5_4) rfl ?_
    show Steps p.tables e below (T4.setTop (mkF m 5 #[.val (.ref a1), .val (.int p2)] [(.int p2), (.ref w3)])) _
    refine X4.baloadBooleans hx (j := p2) (v := (.int w5)) (by rw [e4]; exact Ar_w3.1) (State.isArrayOf_alike hZ.alike Ar_w3.2.1) Ar_w3.2.2 hin5 hat5 (g := (mkF m 5 #[.val (.ref a1), .val (.int p2)] [(.int p2), (.ref w3)])) rfl rfl (hb hby d5_5) _ ?_
    show Steps p.tables e below (T4.setTop (mkF m 6 #[.val (.ref a1), .val (.int p2)] [(.int w5)])) _
    refine XS.ifYes X4.here hx rfl (pc0 := 6) (pc' := 47) rfl (hb hby d5_6) rfl ((if0 _ _).trans (feq hc6).2) (by decide) (by decide) ?_
    show Steps p.tables e below (T4.setTop (mkF m 47 #[.val (.ref a1), .val (.int p2)] [])) _
    exact X4.returnOut hx Bd.returns (hb hby d5_47) hr
  · show Q5n Z a1 p2 w3 w5 cl_w3 h0 n0 _ T4.heap _
    rw [e4]
    exact ⟨rfl, N0, rfl⟩
theorem d6_0 : decode prog_15_method_4_code 0 = .ok (.aload_n 0, 1) := by decide +kernel
theorem d6_1 : decode prog_15_method_4_code 1 = .ok (.getfield 7, 3) := by decide +kernel
theorem d6_4 : decode prog_15_method_4_code 4 = .ok (.aload_n 0, 1) := by decide +kernel
theorem d6_5 : decode prog_15_method_4_code 5 = .ok (.getfield 17, 3) := by decide +kernel
theorem d6_8 : decode prog_15_method_4_code 8 = .ok (.iaload, 1) := by decide +kernel
theorem d6_9 : decode prog_15_method_4_code 9 = .ok (.istore_n 1, 1) := by decide +kernel
theorem d6_10 : decode prog_15_method_4_code 10 = .ok (.aload_n 0, 1) := by decide +kernel
theorem d6_11 : decode prog_15_method_4_code 11 = .ok (.aload_n 0, 1) := by decide +kernel
theorem d6_12 : decode prog_15_method_4_code 12 = .ok (.getfield 17, 3) := by decide +kernel
theorem d6_15 : decode prog_15_method_4_code 15 = .ok (.iconst 1, 1) := by decide +kernel
theorem d6_16 : decode prog_15_method_4_code 16 = .ok (.iadd, 1) := by decide +kernel
theorem d6_17 : decode prog_15_method_4_code 17 = .ok (.aload_n 0, 1) := by decide +kernel
theorem d6_18 : decode prog_15_method_4_code 18 = .ok (.getfield 7, 3) := by decide +kernel
theorem d6_21 : decode prog_15_method_4_code 21 = .ok (.arraylength, 1) := by decide +kernel
theorem d6_22 : decode prog_15_method_4_code 22 = .ok (.irem, 1) := by decide +kernel
theorem d6_23 : decode prog_15_method_4_code 23 = .ok (.putfield 17, 3) := by decide +kernel
theorem d6_26 : decode prog_15_method_4_code 26 = .ok (.aload_n 0, 1) := by decide +kernel
theorem d6_27 : decode prog_15_method_4_code 27 = .ok (.dup, 1) := by decide +kernel
theorem d6_28 : decode prog_15_method_4_code 28 = .ok (.getfield 21, 3) := by decide +kernel
theorem d6_31 : decode prog_15_method_4_code 31 = .ok (.iconst 1, 1) := by decide +kernel
theorem d6_32 : decode prog_15_method_4_code 32 = .ok (.isub, 1) := by decide +kernel
theorem d6_33 : decode prog_15_method_4_code 33 = .ok (.putfield 21, 3) := by decide +kernel
theorem d6_36 : decode prog_15_method_4_code 36 = .ok (.aload_n 0, 1) := by decide +kernel
theorem d6_37 : decode prog_15_method_4_code 37 = .ok (.getfield 13, 3) := by decide +kernel
theorem d6_40 : decode prog_15_method_4_code 40 = .ok (.iload_n 1, 1) := by decide +kernel
theorem d6_41 : decode prog_15_method_4_code 41 = .ok (.iconst 0, 1) := by decide +kernel
theorem d6_42 : decode prog_15_method_4_code 42 = .ok (.bastore, 1) := by decide +kernel
theorem d6_43 : decode prog_15_method_4_code 43 = .ok (.iload_n 1, 1) := by decide +kernel
theorem d6_44 : decode prog_15_method_4_code 44 = .ok (.ireturn, 1) := by decide +kernel
theorem pn_6 : plainName "com/example/assignor/assignor/NodeQueue" = true := by first | (simp [plainName, overriddenIn]; done) | decide +kernel
theorem ef_6 (m : MethodId) (x0 : Addr) : entryFrame m #[(.ref x0)] 2 = mkF m 0 #[.val (.ref x0), .unset] [] := by first | (simp [entryFrame, mkF, argsToLocals, Value.category]; done) | rfl
def Q6 (Z : State) (a1 : Addr) (w2 : Addr) (w4 : Int32) (w6 : Int32) (cl_w2 : Cell) (z_w2 : Int32) (w10 : Int32) (w13 : Addr) (cl_w13 : Cell) (h0 : Heap) (n0 : Nat) (v : Option Value) (h : Heap) (L : List Loc) : Prop := v = some (.int w6) ∧ Fr n0 L ∧ Keep h0 h [a1, w13] ∧ Exa Z h a1 "com/example/assignor/assignor/NodeQueue" ∧ Fld Z h a1 "com/example/assignor/assignor/NodeQueue" "ring" "[I" (.ref w2) ∧ Fld Z h a1 "com/example/assignor/assignor/NodeQueue" "queued" "[Z" (.ref w13) ∧ Fld Z h a1 "com/example/assignor/assignor/NodeQueue" "head" "I" (.int (own_rem (w4 + (1 : Int32)) z_w2)) ∧ Fld Z h a1 "com/example/assignor/assignor/NodeQueue" "size" "I" (.int (w10 - (1 : Int32))) ∧ (∃ c : Cell, Arr Z h w13 c .boolean ∧ c.slots.size = cl_w13.slots.size)
set_option maxRecDepth 65536 in
set_option maxHeartbeats 40000000 in
theorem rm6 (l : Launch) (Z : State) (a0 : Array Value) (hw : ∀ d ∈ tables_1, d.before a0 Z = true) (ws : List Jvm.Cond) (a1 : Addr) (w2 : Addr) (w4 : Int32) (w6 : Int32) (cl_w2 : Cell) (z_w2 : Int32) (w10 : Int32) (w13 : Addr) (cl_w13 : Cell) (h0 : Heap) (n0 : Nat) (Z0 : n0 ≤ h0.size) (F_ring_a1 : Fld Z h0 a1 "com/example/assignor/assignor/NodeQueue" "ring" "[I" (.ref w2)) (F_head_a1 : Fld Z h0 a1 "com/example/assignor/assignor/NodeQueue" "head" "I" (.int w4)) (Ar_w2 : Arr Z h0 w2 cl_w2 .int) (hin8 : ¬ (w4 < 0 ∨ cl_w2.slots.size ≤ (w4).toNatClampNeg)) (hat8 : cl_w2.slots[(w4).toNatClampNeg]? = some (.int w6)) (S_w2 : cl_w2.slots.size = z_w2.toNatClampNeg) (N_w2 : ¬ z_w2 < 0) (hy22 : z_w2 ≠ 0) (E_a1 : Exa Z h0 a1 "com/example/assignor/assignor/NodeQueue") (g_a1 : n0 ≤ a1) (F_size_a1 : Fld Z h0 a1 "com/example/assignor/assignor/NodeQueue" "size" "I" (.int w10)) (F_queued_a1 : Fld Z h0 a1 "com/example/assignor/assignor/NodeQueue" "queued" "[Z" (.ref w13)) (Ar_w13 : Arr Z h0 w13 cl_w13 .boolean) (hin42 : ¬ (w6 < 0 ∨ cl_w13.slots.size ≤ (w6).toNatClampNeg)) (g_w13 : n0 ≤ w13) (ne13 : a1 ≠ w13) :
    MetFree l (⟨"com/example/assignor/assignor/NodeQueue", "poll", "()I"⟩ : MethodName) (head1 (Jvm.Cond.code (⟨"com/example/assignor/assignor/NodeQueue", "poll", "()I"⟩ : MethodName) prog_15_method_4_code 2 (some .int) :: ws) ({ frames := 0, cells := 0, slots := 0, locals := 0 } : Room)) (fun a U => a = #[(.ref a1)] ∧ Z.Warmed39 U.vm ∧ U.heap = h0) (fun _ _ _ _ _ => True) (fun _ U o U' => ∃ v L, o = .returned v ∧ Q6 Z a1 w2 w4 w6 cl_w2 z_w2 w10 w13 cl_w13 h0 n0 v U'.heap L ∧ FrameEnd U o U' L ({ frames := 0, cells := 0, slots := 0, locals := 0 } : Room).cells ({ frames := 0, cells := 0, slots := 0, locals := 0 } : Room).slots) := by
  refine MetFree.of_bodySF (plainFor_of_name pn_6) hisR ?_
  intro p e s m args below meth c s₁ Bd hml0 hP hK
  obtain ⟨rfl, hZ, hh⟩ := hP
  have hx := Bd.exec
  have hby := Bd.bytes
  have hml : c.maxLocals = 2 := hml0
  have hown : s.vm.findClass "com/example/assignor/assignor/NodeQueue" = some m.cls := findClass_of_methodNamed Bd.named
  have hnm := (name_of_methodNamed Bd.named Bd.method).1
  have X0 : Stand p l e ({ frames := 0, cells := 0, slots := 0, locals := 0 } : Room) s m #[(.ref a1)] below meth c s₁ [] 0 0 := Stand.of_body Bd
  have e0 : s₁.heap = h0 := by rw [← hh, Bd.state]; rfl
  have N0 := Fr.nil n0
  have pre0 : ∀ t, Steps p.tables e below (s₁.setTop (mkF m 0 #[.val (.ref a1), .unset] [])) t → Steps p.tables e below (s₁.setTop (entryFrame m #[(.ref a1)] 2)) t := fun t k => castTop (ef_6 m a1) k
  obtain ⟨T3, X3, e3, st3⟩ := getF X0 hx hZ hown (host := "") (Or.inl (hw _ (List.mem_of_getElem? (i := 10) rfl))) Via.refl e0 F_ring_a1 (g := (mkF m 1 #[.val (.ref a1), .unset] [(.ref a1)])) rfl rfl (hb hby d6_1)
  obtain ⟨T5, X5, e5, st5⟩ := getF X3 hx hZ hown (host := "") (Or.inl (hw _ (List.mem_of_getElem? (i := 20) rfl))) Via.refl e3 F_head_a1 (g := (mkF m 5 #[.val (.ref a1), .unset] [(.ref a1), (.ref w2)])) rfl rfl (hb hby d6_5)
  obtain ⟨T7, X7, e7, st7⟩ := getF X5 hx hZ hown (host := "") (Or.inl (hw _ (List.mem_of_getElem? (i := 20) rfl))) Via.refl e5 F_head_a1 (g := (mkF m 12 #[.val (.ref a1), .val (.int w6)] [(.ref a1), (.ref a1)])) rfl rfl (hb hby d6_12)
  obtain ⟨T8, X8, e8, st8⟩ := getF X7 hx hZ hown (host := "") (Or.inl (hw _ (List.mem_of_getElem? (i := 10) rfl))) Via.refl e7 F_ring_a1 (g := (mkF m 18 #[.val (.ref a1), .val (.int w6)] [(.ref a1), (.int (w4 + (1 : Int32))), (.ref a1)])) rfl rfl (hb hby d6_18)
  obtain ⟨T9, h9, X9, e9, W9, st9⟩ := putF X8 hx hZ hown (host := "") (Or.inl (hw _ (List.mem_of_getElem? (i := 20) rfl))) Via.refl e8 F_head_a1 E_a1 (Or.inl (hw _ (List.mem_of_getElem? (i := 21) rfl))) (hw _ (List.mem_of_getElem? (i := 1) rfl)) (ty := .int) (by decide) rfl rfl (g := (mkF m 23 #[.val (.ref a1), .val (.int w6)] [(.int (own_rem (w4 + (1 : Int32)) z_w2)), (.ref a1)])) rfl rfl (hb hby d6_23)
  have Fw9 := F_head_a1.same W9
  have K9 : Keep h0 h9 [a1, w13] := (Keep.refl h0 [a1, w13]).wr W9 (Or.inl (List.mem_of_getElem? (i := 0) rfl))
  have N9 := Fr.snoc X9 N0 g_a1
  obtain ⟨T11, X11, e11, st11⟩ := getF X9 hx hZ hown (host := "") (Or.inl (hw _ (List.mem_of_getElem? (i := 22) rfl))) Via.refl e9 (F_size_a1.other W9 (Or.inr (slot_ne (Or.inl (hw _ (List.mem_of_getElem? (i := 23) rfl))) (Or.inl (hw _ (List.mem_of_getElem? (i := 21) rfl))) (by decide) (t := .int) (t' := .int) (by decide) (by decide)))) (g := (mkF m 28 #[.val (.ref a1), .val (.int w6)] [(.ref a1), (.ref a1)])) rfl rfl (hb hby d6_28)
  obtain ⟨T12, h12, X12, e12, W12, st12⟩ := putF X11 hx hZ hown (host := "") (Or.inl (hw _ (List.mem_of_getElem? (i := 22) rfl))) Via.refl e11 (F_size_a1.other W9 (Or.inr (slot_ne (Or.inl (hw _ (List.mem_of_getElem? (i := 23) rfl))) (Or.inl (hw _ (List.mem_of_getElem? (i := 21) rfl))) (by decide) (t := .int) (t' := .int) (by decide) (by decide)))) (E_a1.wr W9) (Or.inl (hw _ (List.mem_of_getElem? (i := 23) rfl))) (hw _ (List.mem_of_getElem? (i := 1) rfl)) (ty := .int) (by decide) rfl rfl (g := (mkF m 33 #[.val (.ref a1), .val (.int w6)] [(.int (w10 - (1 : Int32))), (.ref a1)])) rfl rfl (hb hby d6_33)
  have Fw12 := (F_size_a1.other W9 (Or.inr (slot_ne (Or.inl (hw _ (List.mem_of_getElem? (i := 23) rfl))) (Or.inl (hw _ (List.mem_of_getElem? (i := 21) rfl))) (by decide) (t := .int) (t' := .int) (by decide) (by decide)))).same W12
  have K12 : Keep h0 h12 [a1, w13] := K9.wr W12 (Or.inl (List.mem_of_getElem? (i := 0) rfl))
  have N12 := Fr.snoc X12 N9 g_a1
  obtain ⟨T14, X14, e14, st14⟩ := getF X12 hx hZ hown (host := "") (Or.inl (hw _ (List.mem_of_getElem? (i := 13) rfl))) Via.refl e12 ((F_queued_a1.other W9 (Or.inr (slot_ne (Or.inr (hw _ (List.mem_of_getElem? (i := 14) rfl))) (Or.inl (hw _ (List.mem_of_getElem? (i := 21) rfl))) (by decide) (t := (.array .boolean)) (t' := .int) (by decide) (by decide)))).other W12 (Or.inr (slot_ne (Or.inr (hw _ (List.mem_of_getElem? (i := 14) rfl))) (Or.inl (hw _ (List.mem_of_getElem? (i := 23) rfl))) (by decide) (t := (.array .boolean)) (t' := .int) (by decide) (by decide)))) (g := (mkF m 37 #[.val (.ref a1), .val (.int w6)] [(.ref a1)])) rfl rfl (hb hby d6_37)
  obtain ⟨T15, h15, X15, e15, W15, st15⟩ := stZ X14 hx hZ e14 ((Ar_w13.other W9 (Ne.symm ne13)).other W12 (Ne.symm ne13)) (j := w6) hin42 (g := (mkF m 42 #[.val (.ref a1), .val (.int w6)] [(.int (0 : Int32)), (.int w6), (.ref w13)])) rfl rfl (hb hby d6_42)
  have N15 := Fr.snoc X15 N12 g_w13
  have K15 : Keep h0 h15 [a1, w13] := K12.wr W15 (Or.inl (List.mem_of_getElem? (i := 1) rfl))
  obtain ⟨fs, hr, hrun, hended, hW, hsame⟩ := X15.leave (v := some (.int w6)) (fun h => by rw [Bd.returns] at h; cases h)
  refine ⟨_, _, pre0 _ ?_, hrun, hended, _, _, rfl, ?_, ⟨_, rfl⟩, hW, hsame.mono (by decide) (by decide)⟩
  · show Steps p.tables e below (s₁.setTop (mkF m 0 #[.val (.ref a1), .unset] [])) _
    refine XS.aloadN X0.here hx rfl (hb hby d6_0) rfl rfl ?_
    show Steps p.tables e below (s₁.setTop (mkF m 1 #[.val (.ref a1), .unset] [(.ref a1)])) _
    refine st3 _ ?_
    show Steps p.tables e below (T3.setTop (mkF m 4 #[.val (.ref a1), .unset] [(.ref w2)])) _
    refine XS.aloadN X3.here hx rfl (hb hby d6_4) rfl rfl ?_
    show Steps p.tables e below (T3.setTop (mkF m 5 #[.val (.ref a1), .unset] [(.ref a1), (.ref w2)])) _
    refine st5 _ ?_
    show Steps p.tables e below (T5.setTop (mkF m 8 #[.val (.ref a1), .unset] [(.int w4), (.ref w2)])) _
    refine X5.iaload hx (j := w4) (v := (.int w6)) (by rw [e5]; exact Ar_w2.1) (State.isArrayOf_alike hZ.alike Ar_w2.2.1) Ar_w2.2.2 hin8 hat8 (g := (mkF m 8 #[.val (.ref a1), .unset] [(.int w4), (.ref w2)])) rfl rfl (hb hby d6_8) _ ?_
    show Steps p.tables e below (T5.setTop (mkF m 9 #[.val (.ref a1), .unset] [(.int w6)])) _
    refine XS.istoreN X5.here hx rfl (hb hby d6_9) rfl (l' := #[.val (.ref a1), .val (.int w6)]) rfl ?_
    show Steps p.tables e below (T5.setTop (mkF m 10 #[.val (.ref a1), .val (.int w6)] [])) _
    refine XS.aloadN X5.here hx rfl (hb hby d6_10) rfl rfl ?_
    show Steps p.tables e below (T5.setTop (mkF m 11 #[.val (.ref a1), .val (.int w6)] [(.ref a1)])) _
    refine XS.aloadN X5.here hx rfl (hb hby d6_11) rfl rfl ?_
    show Steps p.tables e below (T5.setTop (mkF m 12 #[.val (.ref a1), .val (.int w6)] [(.ref a1), (.ref a1)])) _
    refine st7 _ ?_
    show Steps p.tables e below (T7.setTop (mkF m 15 #[.val (.ref a1), .val (.int w6)] [(.int w4), (.ref a1)])) _
    refine XS.iconst X7.here hx rfl (hb hby d6_15) ?_
    show Steps p.tables e below (T7.setTop (mkF m 16 #[.val (.ref a1), .val (.int w6)] [(.int (1 : Int32)), (.int w4), (.ref a1)])) _
    refine XS.iadd X7.here hx rfl (hb hby d6_16) rfl ?_
    show Steps p.tables e below (T7.setTop (mkF m 17 #[.val (.ref a1), .val (.int w6)] [(.int (w4 + (1 : Int32))), (.ref a1)])) _
    refine XS.aloadN X7.here hx rfl (hb hby d6_17) rfl rfl ?_
    show Steps p.tables e below (T7.setTop (mkF m 18 #[.val (.ref a1), .val (.int w6)] [(.ref a1), (.int (w4 + (1 : Int32))), (.ref a1)])) _
    refine st8 _ ?_
    show Steps p.tables e below (T8.setTop (mkF m 21 #[.val (.ref a1), .val (.int w6)] [(.ref w2), (.int (w4 + (1 : Int32))), (.ref a1)])) _
    refine X8.arraylength hx (by rw [e8]; exact Ar_w2.1) (State.isArrayOf_alike hZ.alike Ar_w2.2.1) (g := (mkF m 21 #[.val (.ref a1), .val (.int w6)] [(.ref w2), (.int (w4 + (1 : Int32))), (.ref a1)])) rfl rfl (hb hby d6_21) _ ?_
    rw [len_of S_w2 N_w2]
    show Steps p.tables e below (T8.setTop (mkF m 22 #[.val (.ref a1), .val (.int w6)] [(.int z_w2), (.int (w4 + (1 : Int32))), (.ref a1)])) _
    refine XS.irem X8.here hx rfl (hb hby d6_22) rfl hy22 ?_
    show Steps p.tables e below (T8.setTop (mkF m 23 #[.val (.ref a1), .val (.int w6)] [(.int (own_rem (w4 + (1 : Int32)) z_w2)), (.ref a1)])) _
    refine st9 _ ?_
    show Steps p.tables e below (T9.setTop (mkF m 26 #[.val (.ref a1), .val (.int w6)] [])) _
    refine XS.aloadN X9.here hx rfl (hb hby d6_26) rfl rfl ?_
    show Steps p.tables e below (T9.setTop (mkF m 27 #[.val (.ref a1), .val (.int w6)] [(.ref a1)])) _
    refine XS.dup X9.here hx rfl (hb hby d6_27) rfl rfl ?_
    show Steps p.tables e below (T9.setTop (mkF m 28 #[.val (.ref a1), .val (.int w6)] [(.ref a1), (.ref a1)])) _
    refine st11 _ ?_
    show Steps p.tables e below (T11.setTop (mkF m 31 #[.val (.ref a1), .val (.int w6)] [(.int w10), (.ref a1)])) _
    refine XS.iconst X11.here hx rfl (hb hby d6_31) ?_
    show Steps p.tables e below (T11.setTop (mkF m 32 #[.val (.ref a1), .val (.int w6)] [(.int (1 : Int32)), (.int w10), (.ref a1)])) _
    refine XS.isub X11.here hx rfl (hb hby d6_32) rfl ?_
    show Steps p.tables e below (T11.setTop (mkF m 33 #[.val (.ref a1), .val (.int w6)] [(.int (w10 - (1 : Int32))), (.ref a1)])) _
    refine st12 _ ?_
    show Steps p.tables e below (T12.setTop (mkF m 36 #[.val (.ref a1), .val (.int w6)] [])) _
    refine XS.aloadN X12.here hx rfl (hb hby d6_36) rfl rfl ?_
    show Steps p.tables e below (T12.setTop (mkF m 37 #[.val (.ref a1), .val (.int w6)] [(.ref a1)])) _
    refine st14 _ ?_
    show Steps p.tables e below (T14.setTop (mkF m 40 #[.val (.ref a1), .val (.int w6)] [(.ref w13)])) _
    refine XS.iloadN X14.here hx rfl (hb hby d6_40) rfl ?_
    show Steps p.tables e below (T14.setTop (mkF m 41 #[.val (.ref a1), .val (.int w6)] [(.int w6), (.ref w13)])) _
    refine XS.iconst X14.here hx rfl (hb hby d6_41) ?_
    show Steps p.tables e below (T14.setTop (mkF m 42 #[.val (.ref a1), .val (.int w6)] [(.int (0 : Int32)), (.int w6), (.ref w13)])) _
    refine st15 _ ?_
    show Steps p.tables e below (T15.setTop (mkF m 43 #[.val (.ref a1), .val (.int w6)] [])) _
    refine XS.iloadN X15.here hx rfl (hb hby d6_43) rfl ?_
    show Steps p.tables e below (T15.setTop (mkF m 44 #[.val (.ref a1), .val (.int w6)] [(.int w6)])) _
    exact retI X15 hx Bd.returns (hb hby d6_44) hr
  · show Q6 Z a1 w2 w4 w6 cl_w2 z_w2 w10 w13 cl_w13 h0 n0 _ T15.heap _
    rw [e15]
    exact ⟨rfl, N15, K15, ((E_a1.wr W9).wr W12).wr W15, (((F_ring_a1.other W9 (Or.inr (slot_ne (Or.inr (hw _ (List.mem_of_getElem? (i := 11) rfl))) (Or.inl (hw _ (List.mem_of_getElem? (i := 21) rfl))) (by decide) (t := (.array .int)) (t' := .int) (by decide) (by decide)))).other W12 (Or.inr (slot_ne (Or.inr (hw _ (List.mem_of_getElem? (i := 11) rfl))) (Or.inl (hw _ (List.mem_of_getElem? (i := 23) rfl))) (by decide) (t := (.array .int)) (t' := .int) (by decide) (by decide)))).other W15 (Or.inl ne13)), (((F_queued_a1.other W9 (Or.inr (slot_ne (Or.inr (hw _ (List.mem_of_getElem? (i := 14) rfl))) (Or.inl (hw _ (List.mem_of_getElem? (i := 21) rfl))) (by decide) (t := (.array .boolean)) (t' := .int) (by decide) (by decide)))).other W12 (Or.inr (slot_ne (Or.inr (hw _ (List.mem_of_getElem? (i := 14) rfl))) (Or.inl (hw _ (List.mem_of_getElem? (i := 23) rfl))) (by decide) (t := (.array .boolean)) (t' := .int) (by decide) (by decide)))).other W15 (Or.inl ne13)), ((Fw9.other W12 (Or.inr (slot_ne (Or.inl (hw _ (List.mem_of_getElem? (i := 21) rfl))) (Or.inl (hw _ (List.mem_of_getElem? (i := 23) rfl))) (by decide) (t := .int) (t' := .int) (by decide) (by decide)))).other W15 (Or.inl ne13)), (Fw12.other W15 (Or.inl ne13)), ⟨_, (((Ar_w13.other W9 (Ne.symm ne13)).other W12 (Ne.symm ne13)).same W15), sz_set _ _ _⟩⟩
theorem d3_2 : decode prog_15_method_2_code 2 = .ok (.iload_n 1, 1) := by decide +kernel
theorem d3_3 : decode prog_15_method_2_code 3 = .ok (.aload_n 0, 1) := by decide +kernel
theorem d3_4 : decode prog_15_method_2_code 4 = .ok (.getfield 7, 3) := by decide +kernel
theorem d3_7 : decode prog_15_method_2_code 7 = .ok (.arraylength, 1) := by decide +kernel
theorem d3_8 : decode prog_15_method_2_code 8 = .ok (.if_icmp .ge 23, 3) := by decide +kernel
theorem d3_11 : decode prog_15_method_2_code 11 = .ok (.aload_n 0, 1) := by decide +kernel
theorem d3_12 : decode prog_15_method_2_code 12 = .ok (.getfield 7, 3) := by decide +kernel
theorem d3_15 : decode prog_15_method_2_code 15 = .ok (.iload_n 1, 1) := by decide +kernel
theorem d3_16 : decode prog_15_method_2_code 16 = .ok (.iload_n 1, 1) := by decide +kernel
theorem d3_17 : decode prog_15_method_2_code 17 = .ok (.iastore, 1) := by decide +kernel
theorem d3_18 : decode prog_15_method_2_code 18 = .ok (.aload_n 0, 1) := by decide +kernel
theorem d3_19 : decode prog_15_method_2_code 19 = .ok (.getfield 13, 3) := by decide +kernel
theorem d3_22 : decode prog_15_method_2_code 22 = .ok (.iload_n 1, 1) := by decide +kernel
theorem d3_23 : decode prog_15_method_2_code 23 = .ok (.iconst 1, 1) := by decide +kernel
theorem d3_24 : decode prog_15_method_2_code 24 = .ok (.bastore, 1) := by decide +kernel
theorem d3_25 : decode prog_15_method_2_code 25 = .ok (.iinc 1 1, 3) := by decide +kernel
theorem d3_28 : decode prog_15_method_2_code 28 = .ok (.goto (-26), 3) := by decide +kernel
set_option maxRecDepth 65536 in
set_option maxHeartbeats 40000000 in
/-- the loop of fillWithAll, whole: from the head with i turns made and k left, to the head with N made -/
theorem own_loop3 {p : Program} {l : Launch} {e : Env} {R : Room} {s : State} {m : MethodId} {args : Array Value} {below : List Frame} {meth : Method} {c : Code} {cells slots : Nat} {Z : State} {a0 : Array Value} (q r d : Addr) (z : Int32) (n0 N : Nat) (hN : z.toNatClampNeg = N) (h4 : N ≤ 4) (Nz : ¬ z < 0) (hx : p.tables.exec = Jvm.exec) (hZ : Z.Warmed39 s.vm) (hw : ∀ d ∈ tables_1, d.before a0 Z = true) (hby : c.code = prog_15_method_2_code) (hml : c.maxLocals = 2) (hown : s.vm.findClass "com/example/assignor/assignor/NodeQueue" = some m.cls) (ne1 : q ≠ r) (ne2 : q ≠ d) (ne3 : r ≠ d) (gr : n0 ≤ r) (gd : n0 ≤ d) (hd sz : Value) :
    ∀ (k i : Nat), i + k = N → ∀ (T0 : State) (h0 : Heap) (locs : List Loc), Stand p l e R s m args below meth c T0 locs cells slots → T0.heap = h0 → n0 ≤ h0.size → Fr n0 locs → own_St Z h0 q r d N hd sz i i →
      ∃ (T' : State) (h' : Heap) (L' : List Loc), Stand p l e R s m args below meth c T' L' cells slots ∧ T'.heap = h' ∧ n0 ≤ h'.size ∧ Fr n0 L' ∧ own_St Z h' q r d N hd sz N N ∧
        ∀ target, Steps p.tables e below (T'.setTop (mkF m 2 #[.val (.ref q), .val (.int (Int32.ofNat N))] [])) target → Steps p.tables e below (T0.setTop (mkF m 2 #[.val (.ref q), .val (.int (Int32.ofNat i))] [])) target := by
  intro k
  induction k with
  | zero =>
    intro i hi T0 h0 locs X0 e0 Z0 N0 S0
    obtain rfl : i = N := by omega
    exact ⟨T0, h0, locs, X0, e0, Z0, N0, S0, fun _ kt => kt⟩
  | succ k ih =>
    intro i hi T0 h0 locs X0 e0 Z0 N0 S0
    obtain ⟨Ex, Fri, Fqu, Fhe, Fsi, ⟨cr, Ar, Sr, Hr⟩, ⟨cd, Ad, Sd, Hd⟩⟩ := S0
    have Sz : cr.slots.size = z.toNatClampNeg := by rw [Sr, hN]
    have Sz2 : cd.slots.size = z.toNatClampNeg := by rw [Sd, hN]
    have hc : Int32.ofNat i < z := own_ltN Nz hN h4 (by omega)
    have hin : ¬ (Int32.ofNat i < 0 ∨ cr.slots.size ≤ (Int32.ofNat i).toNatClampNeg) := inb_of Sz ⟨own_of0 i (by omega), hc⟩
    have hin2 : ¬ (Int32.ofNat i < 0 ∨ cd.slots.size ≤ (Int32.ofNat i).toNatClampNeg) := inb_of Sz2 ⟨own_of0 i (by omega), hc⟩
    have eN : (Int32.ofNat i).toNatClampNeg = i := own_ofN i (by omega)
    obtain ⟨T3, X3, e3, st3⟩ := getF X0 hx hZ hown (host := "") (Or.inl (hw _ (List.mem_of_getElem? (i := 10) rfl))) Via.refl e0 Fri (g := (mkF m 4 #[.val (.ref q), .val (.int (Int32.ofNat i))] [(.ref q), (.int (Int32.ofNat i))])) rfl rfl (hb hby d3_4)
    obtain ⟨T4, X4, e4, st4⟩ := getF X3 hx hZ hown (host := "") (Or.inl (hw _ (List.mem_of_getElem? (i := 10) rfl))) Via.refl e3 Fri (g := (mkF m 12 #[.val (.ref q), .val (.int (Int32.ofNat i))] [(.ref q)])) rfl rfl (hb hby d3_12)
    obtain ⟨T5, h5, X5, e5, W5, st5⟩ := stI X4 hx hZ e4 Ar (j := (Int32.ofNat i)) hin (g := (mkF m 17 #[.val (.ref q), .val (.int (Int32.ofNat i))] [(.int (Int32.ofNat i)), (.int (Int32.ofNat i)), (.ref r)])) rfl rfl (hb hby d3_17)
    have N5 := Fr.snoc X5 N0 gr
    have K5 : Keep h0 h5 [r, d] := (Keep.refl h0 [r, d]).wr W5 (Or.inl (List.mem_of_getElem? (i := 0) rfl))
    obtain ⟨T7, X7, e7, st7⟩ := getF X5 hx hZ hown (host := "") (Or.inl (hw _ (List.mem_of_getElem? (i := 13) rfl))) Via.refl e5 (Fqu.other W5 (Or.inl ne1)) (g := (mkF m 19 #[.val (.ref q), .val (.int (Int32.ofNat i))] [(.ref q)])) rfl rfl (hb hby d3_19)
    obtain ⟨T8, h8, X8, e8, W8, st8⟩ := stZ X7 hx hZ e7 (Ad.other W5 (Ne.symm ne3)) (j := (Int32.ofNat i)) hin2 (g := (mkF m 24 #[.val (.ref q), .val (.int (Int32.ofNat i))] [(.int (1 : Int32)), (.int (Int32.ofNat i)), (.ref d)])) rfl rfl (hb hby d3_24)
    have N8 := Fr.snoc X8 N5 gd
    have K8 : Keep h0 h8 [r, d] := K5.wr W8 (Or.inl (List.mem_of_getElem? (i := 1) rfl))
    have Ar8 := (Ar.same W5).other W8 ne3
    have Ad8 := (Ad.other W5 (Ne.symm ne3)).same W8
    have S8 : own_St Z h8 q r d N hd sz (i + 1) (i + 1) := by
      refine ⟨(Ex.wr W5).wr W8, (Fri.other W5 (Or.inl ne1)).other W8 (Or.inl ne2), (Fqu.other W5 (Or.inl ne1)).other W8 (Or.inl ne2), (Fhe.other W5 (Or.inl ne1)).other W8 (Or.inl ne2), (Fsi.other W5 (Or.inl ne1)).other W8 (Or.inl ne2), ⟨_, Ar8, (sz_set _ _ _).trans Sr, fun x hx => ?_⟩, ⟨_, Ad8, (sz_set _ _ _).trans Sd, fun x hx => ?_⟩⟩
      · rw [eN]
        by_cases u : i = x
        · subst u; exact own_gs _ _ _ (by omega)
        · rw [own_gn _ _ _ _ u]; exact Hr x (by omega)
      · rw [eN]
        by_cases u : i = x
        · subst u; exact own_gs _ _ _ (by omega)
        · rw [own_gn _ _ _ _ u]; exact Hd x (by omega)
    obtain ⟨T', h', L', X', e', Z', N', S', st'⟩ := ih (i + 1) (by omega) T8 h8 _ X8 e8 (Nat.le_trans Z0 K8.1) N8 S8
    refine ⟨T', h', L', X', e', Z', N', S', fun target kt0 => ?_⟩
    have kt := st' target kt0
    rw [← own_up i (by omega)] at kt
    show Steps p.tables e below (T0.setTop (mkF m 2 #[.val (.ref q), .val (.int (Int32.ofNat i))] [])) _
    refine XS.iloadN X0.here hx rfl (hb hby d3_2) rfl ?_
    show Steps p.tables e below (T0.setTop (mkF m 3 #[.val (.ref q), .val (.int (Int32.ofNat i))] [(.int (Int32.ofNat i))])) _
    refine XS.aloadN X0.here hx rfl (hb hby d3_3) rfl rfl ?_
    show Steps p.tables e below (T0.setTop (mkF m 4 #[.val (.ref q), .val (.int (Int32.ofNat i))] [(.ref q), (.int (Int32.ofNat i))])) _
    refine st3 _ ?_
    show Steps p.tables e below (T3.setTop (mkF m 7 #[.val (.ref q), .val (.int (Int32.ofNat i))] [(.ref r), (.int (Int32.ofNat i))])) _
    refine X3.arraylength hx (by rw [e3]; exact Ar.1) (State.isArrayOf_alike hZ.alike Ar.2.1) (g := (mkF m 7 #[.val (.ref q), .val (.int (Int32.ofNat i))] [(.ref r), (.int (Int32.ofNat i))])) rfl rfl (hb hby d3_7) _ ?_
    rw [len_of Sz Nz]
    show Steps p.tables e below (T3.setTop (mkF m 8 #[.val (.ref q), .val (.int (Int32.ofNat i))] [(.int z), (.int (Int32.ofNat i))])) _
    refine XS.icmpNo X3.here hx rfl (hb hby d3_8) rfl (tlt hc).2.1 ?_
    show Steps p.tables e below (T3.setTop (mkF m 11 #[.val (.ref q), .val (.int (Int32.ofNat i))] [])) _
    refine XS.aloadN X3.here hx rfl (hb hby d3_11) rfl rfl ?_
    show Steps p.tables e below (T3.setTop (mkF m 12 #[.val (.ref q), .val (.int (Int32.ofNat i))] [(.ref q)])) _
    refine st4 _ ?_
    show Steps p.tables e below (T4.setTop (mkF m 15 #[.val (.ref q), .val (.int (Int32.ofNat i))] [(.ref r)])) _
    refine XS.iloadN X4.here hx rfl (hb hby d3_15) rfl ?_
    show Steps p.tables e below (T4.setTop (mkF m 16 #[.val (.ref q), .val (.int (Int32.ofNat i))] [(.int (Int32.ofNat i)), (.ref r)])) _
    refine XS.iloadN X4.here hx rfl (hb hby d3_16) rfl ?_
    show Steps p.tables e below (T4.setTop (mkF m 17 #[.val (.ref q), .val (.int (Int32.ofNat i))] [(.int (Int32.ofNat i)), (.int (Int32.ofNat i)), (.ref r)])) _
    refine st5 _ ?_
    show Steps p.tables e below (T5.setTop (mkF m 18 #[.val (.ref q), .val (.int (Int32.ofNat i))] [])) _
    refine XS.aloadN X5.here hx rfl (hb hby d3_18) rfl rfl ?_
    show Steps p.tables e below (T5.setTop (mkF m 19 #[.val (.ref q), .val (.int (Int32.ofNat i))] [(.ref q)])) _
    refine st7 _ ?_
    show Steps p.tables e below (T7.setTop (mkF m 22 #[.val (.ref q), .val (.int (Int32.ofNat i))] [(.ref d)])) _
    refine XS.iloadN X7.here hx rfl (hb hby d3_22) rfl ?_
    show Steps p.tables e below (T7.setTop (mkF m 23 #[.val (.ref q), .val (.int (Int32.ofNat i))] [(.int (Int32.ofNat i)), (.ref d)])) _
    refine XS.iconst X7.here hx rfl (hb hby d3_23) ?_
    show Steps p.tables e below (T7.setTop (mkF m 24 #[.val (.ref q), .val (.int (Int32.ofNat i))] [(.int (1 : Int32)), (.int (Int32.ofNat i)), (.ref d)])) _
    refine st8 _ ?_
    show Steps p.tables e below (T8.setTop (mkF m 25 #[.val (.ref q), .val (.int (Int32.ofNat i))] [])) _
    refine XS.iinc X8.here hx rfl (hb hby d3_25) rfl (l' := #[.val (.ref q), .val (.int (Int32.ofNat i + (1 : Int32)))]) rfl ?_
    show Steps p.tables e below (T8.setTop (mkF m 28 #[.val (.ref q), .val (.int (Int32.ofNat i + (1 : Int32)))] [])) _
    refine XS.goto X8.here hx rfl (pc0 := 28) (pc' := 2) rfl (hb hby d3_28) (by decide) (by decide) ?_
    exact kt

theorem d3_0 : decode prog_15_method_2_code 0 = .ok (.iconst 0, 1) := by decide +kernel
theorem d3_1 : decode prog_15_method_2_code 1 = .ok (.istore_n 1, 1) := by decide +kernel
theorem d3_31 : decode prog_15_method_2_code 31 = .ok (.aload_n 0, 1) := by decide +kernel
theorem d3_32 : decode prog_15_method_2_code 32 = .ok (.iconst 0, 1) := by decide +kernel
theorem d3_33 : decode prog_15_method_2_code 33 = .ok (.putfield 17, 3) := by decide +kernel
theorem d3_36 : decode prog_15_method_2_code 36 = .ok (.aload_n 0, 1) := by decide +kernel
theorem d3_37 : decode prog_15_method_2_code 37 = .ok (.aload_n 0, 1) := by decide +kernel
theorem d3_38 : decode prog_15_method_2_code 38 = .ok (.getfield 7, 3) := by decide +kernel
theorem d3_41 : decode prog_15_method_2_code 41 = .ok (.arraylength, 1) := by decide +kernel
theorem d3_42 : decode prog_15_method_2_code 42 = .ok (.putfield 21, 3) := by decide +kernel
theorem d3_45 : decode prog_15_method_2_code 45 = .ok (.return_, 1) := by decide +kernel
theorem pn_3 : plainName "com/example/assignor/assignor/NodeQueue" = true := by first | (simp [plainName, overriddenIn]; done) | decide +kernel
theorem ef_3 (m : MethodId) (x0 : Addr) : entryFrame m #[(.ref x0)] 2 = mkF m 0 #[.val (.ref x0), .unset] [] := by first | (simp [entryFrame, mkF, argsToLocals, Value.category]; done) | rfl
def Q3 (Z : State) (a1 : Addr) (r d : Addr) (z : Int32) (N : Nat) (hd sz : Value) (h0 : Heap) (n0 : Nat) (v : Option Value) (h : Heap) (L : List Loc) : Prop := v = none ∧ Fr n0 L ∧ n0 ≤ h.size ∧ own_St Z h a1 r d N (.int 0) (.int z) N N
set_option maxRecDepth 65536 in
set_option maxHeartbeats 40000000 in
theorem rm3 (l : Launch) (Z : State) (a0 : Array Value) (hw : ∀ d ∈ tables_1, d.before a0 Z = true) (ws : List Jvm.Cond) (a1 : Addr) (r d : Addr) (z : Int32) (N : Nat) (hd sz : Value) (h0 : Heap) (n0 : Nat) (Z0 : n0 ≤ h0.size) (S : own_St Z h0 a1 r d N hd sz 0 0) (hN : z.toNatClampNeg = N) (h4 : N ≤ 4) (Nz : ¬ z < 0) (ne1 : a1 ≠ r) (ne2 : a1 ≠ d) (ne3 : r ≠ d) (g1 : n0 ≤ a1) (gr : n0 ≤ r) (gd : n0 ≤ d) :
    MetFree l (⟨"com/example/assignor/assignor/NodeQueue", "fillWithAll", "()V"⟩ : MethodName) (head1 (Jvm.Cond.code (⟨"com/example/assignor/assignor/NodeQueue", "fillWithAll", "()V"⟩ : MethodName) prog_15_method_2_code 2 none :: ws) ({ frames := 0, cells := 0, slots := 0, locals := 0 } : Room)) (fun a U => a = #[(.ref a1)] ∧ Z.Warmed39 U.vm ∧ U.heap = h0) (fun _ _ _ _ _ => True) (fun _ U o U' => ∃ v L, o = .returned v ∧ Q3 Z a1 r d z N hd sz h0 n0 v U'.heap L ∧ FrameEnd U o U' L ({ frames := 0, cells := 0, slots := 0, locals := 0 } : Room).cells ({ frames := 0, cells := 0, slots := 0, locals := 0 } : Room).slots) := by
  refine MetFree.of_bodySF (plainFor_of_name pn_3) hisR ?_
  intro p e s m args below meth c s₁ Bd hml0 hP hK
  obtain ⟨rfl, hZ, hh⟩ := hP
  have hx := Bd.exec
  have hby := Bd.bytes
  have hml : c.maxLocals = 2 := hml0
  have hown : s.vm.findClass "com/example/assignor/assignor/NodeQueue" = some m.cls := findClass_of_methodNamed Bd.named
  have hnm := (name_of_methodNamed Bd.named Bd.method).1
  have X0 : Stand p l e ({ frames := 0, cells := 0, slots := 0, locals := 0 } : Room) s m #[(.ref a1)] below meth c s₁ [] 0 0 := Stand.of_body Bd
  have e0 : s₁.heap = h0 := by rw [← hh, Bd.state]; rfl
  have N0 := Fr.nil n0
  have pre0 : ∀ t, Steps p.tables e below (s₁.setTop (mkF m 0 #[.val (.ref a1), .unset] [])) t → Steps p.tables e below (s₁.setTop (entryFrame m #[(.ref a1)] 2)) t := fun t k => castTop (ef_3 m a1) k
  have st_1p : ∀ target, Steps p.tables e below (s₁.setTop (mkF m 2 #[.val (.ref a1), .val (.int (0 : Int32))] [])) target → Steps p.tables e below (s₁.setTop (mkF m 0 #[.val (.ref a1), .unset] [])) target := by
    intro target kt
    show Steps p.tables e below (s₁.setTop (mkF m 0 #[.val (.ref a1), .unset] [])) _
    refine XS.iconst X0.here hx rfl (hb hby d3_0) ?_
    show Steps p.tables e below (s₁.setTop (mkF m 1 #[.val (.ref a1), .unset] [(.int (0 : Int32))])) _
    refine XS.istoreN X0.here hx rfl (hb hby d3_1) rfl (l' := #[.val (.ref a1), .val (.int (0 : Int32))]) rfl ?_
    exact kt
  obtain ⟨TL, hL, LL, XL, eL, ZL, NL, SL, stL⟩ := own_loop3 a1 r d z n0 N hN h4 Nz hx hZ hw hby hml hown ne1 ne2 ne3 gr gd hd sz N 0 (by omega) _ _ _ X0 e0 Z0 N0 S
  rw [own_end Nz hN h4] at stL
  obtain ⟨Ex, Fri, Fqu, Fhe, Fsi, ⟨cr, Ar, Sr, Hr⟩, ⟨cd, Ad, Sd, Hd⟩⟩ := SL
  have Sz : cr.slots.size = z.toNatClampNeg := by rw [Sr, hN]
  have hc8_2 : ¬ (z < z) := own_irr z
  obtain ⟨T3_2, X3_2, e3_2, st3_2⟩ := getF XL hx hZ hown (host := "") (Or.inl (hw _ (List.mem_of_getElem? (i := 10) rfl))) Via.refl eL Fri (g := (mkF m 4 #[.val (.ref a1), .val (.int z)] [(.ref a1), (.int z)])) rfl rfl (hb hby d3_4)
  obtain ⟨T4_2, h4_2, X4_2, e4_2, W4_2, st4_2⟩ := putF X3_2 hx hZ hown (host := "") (Or.inl (hw _ (List.mem_of_getElem? (i := 20) rfl))) Via.refl e3_2 Fhe Ex (Or.inl (hw _ (List.mem_of_getElem? (i := 21) rfl))) (hw _ (List.mem_of_getElem? (i := 1) rfl)) (ty := .int) (by decide) rfl rfl (g := (mkF m 33 #[.val (.ref a1), .val (.int z)] [(.int (0 : Int32)), (.ref a1)])) rfl rfl (hb hby d3_33)
  have Fw4_2 := Fhe.same W4_2
  have K4_2 : Keep hL h4_2 [a1] := (Keep.refl hL [a1]).wr W4_2 (Or.inl (List.mem_of_getElem? (i := 0) rfl))
  have N4_2 := Fr.snoc X4_2 NL g1
  obtain ⟨T5_2, X5_2, e5_2, st5_2⟩ := getF X4_2 hx hZ hown (host := "") (Or.inl (hw _ (List.mem_of_getElem? (i := 10) rfl))) Via.refl e4_2 (Fri.other W4_2 (Or.inr (slot_ne (Or.inr (hw _ (List.mem_of_getElem? (i := 11) rfl))) (Or.inl (hw _ (List.mem_of_getElem? (i := 21) rfl))) (by decide) (t := (.array .int)) (t' := .int) (by decide) (by decide)))) (g := (mkF m 38 #[.val (.ref a1), .val (.int z)] [(.ref a1), (.ref a1)])) rfl rfl (hb hby d3_38)
  obtain ⟨T6_2, h6_2, X6_2, e6_2, W6_2, st6_2⟩ := putF X5_2 hx hZ hown (host := "") (Or.inl (hw _ (List.mem_of_getElem? (i := 22) rfl))) Via.refl e5_2 (Fsi.other W4_2 (Or.inr (slot_ne (Or.inl (hw _ (List.mem_of_getElem? (i := 23) rfl))) (Or.inl (hw _ (List.mem_of_getElem? (i := 21) rfl))) (by decide) (t := .int) (t' := .int) (by decide) (by decide)))) (Ex.wr W4_2) (Or.inl (hw _ (List.mem_of_getElem? (i := 23) rfl))) (hw _ (List.mem_of_getElem? (i := 1) rfl)) (ty := .int) (by decide) rfl rfl (g := (mkF m 42 #[.val (.ref a1), .val (.int z)] [(.int z), (.ref a1)])) rfl rfl (hb hby d3_42)
  have Fw6_2 := (Fsi.other W4_2 (Or.inr (slot_ne (Or.inl (hw _ (List.mem_of_getElem? (i := 23) rfl))) (Or.inl (hw _ (List.mem_of_getElem? (i := 21) rfl))) (by decide) (t := .int) (t' := .int) (by decide) (by decide)))).same W6_2
  have K6_2 : Keep hL h6_2 [a1] := K4_2.wr W6_2 (Or.inl (List.mem_of_getElem? (i := 0) rfl))
  have N6_2 := Fr.snoc X6_2 N4_2 g1
  have st_2p : ∀ target, Steps p.tables e below (T6_2.setTop (mkF m 45 #[.val (.ref a1), .val (.int z)] [])) target → Steps p.tables e below (TL.setTop (mkF m 2 #[.val (.ref a1), .val (.int z)] [])) target := by
    intro target kt
    show Steps p.tables e below (TL.setTop (mkF m 2 #[.val (.ref a1), .val (.int z)] [])) _
    refine XS.iloadN XL.here hx rfl (hb hby d3_2) rfl ?_
    show Steps p.tables e below (TL.setTop (mkF m 3 #[.val (.ref a1), .val (.int z)] [(.int z)])) _
    refine XS.aloadN XL.here hx rfl (hb hby d3_3) rfl rfl ?_
    show Steps p.tables e below (TL.setTop (mkF m 4 #[.val (.ref a1), .val (.int z)] [(.ref a1), (.int z)])) _
    refine st3_2 _ ?_
    show Steps p.tables e below (T3_2.setTop (mkF m 7 #[.val (.ref a1), .val (.int z)] [(.ref r), (.int z)])) _
    refine X3_2.arraylength hx (by rw [e3_2]; exact Ar.1) (State.isArrayOf_alike hZ.alike Ar.2.1) (g := (mkF m 7 #[.val (.ref a1), .val (.int z)] [(.ref r), (.int z)])) rfl rfl (hb hby d3_7) _ ?_
    rw [len_of Sz Nz]
    show Steps p.tables e below (T3_2.setTop (mkF m 8 #[.val (.ref a1), .val (.int z)] [(.int z), (.int z)])) _
    refine XS.icmpYes X3_2.here hx rfl (pc0 := 8) (pc' := 31) rfl (hb hby d3_8) rfl (flt hc8_2).2.1 (by decide) (by decide) ?_
    show Steps p.tables e below (T3_2.setTop (mkF m 31 #[.val (.ref a1), .val (.int z)] [])) _
    refine XS.aloadN X3_2.here hx rfl (hb hby d3_31) rfl rfl ?_
    show Steps p.tables e below (T3_2.setTop (mkF m 32 #[.val (.ref a1), .val (.int z)] [(.ref a1)])) _
    refine XS.iconst X3_2.here hx rfl (hb hby d3_32) ?_
    show Steps p.tables e below (T3_2.setTop (mkF m 33 #[.val (.ref a1), .val (.int z)] [(.int (0 : Int32)), (.ref a1)])) _
    refine st4_2 _ ?_
    show Steps p.tables e below (T4_2.setTop (mkF m 36 #[.val (.ref a1), .val (.int z)] [])) _
    refine XS.aloadN X4_2.here hx rfl (hb hby d3_36) rfl rfl ?_
    show Steps p.tables e below (T4_2.setTop (mkF m 37 #[.val (.ref a1), .val (.int z)] [(.ref a1)])) _
    refine XS.aloadN X4_2.here hx rfl (hb hby d3_37) rfl rfl ?_
    show Steps p.tables e below (T4_2.setTop (mkF m 38 #[.val (.ref a1), .val (.int z)] [(.ref a1), (.ref a1)])) _
    refine st5_2 _ ?_
    show Steps p.tables e below (T5_2.setTop (mkF m 41 #[.val (.ref a1), .val (.int z)] [(.ref r), (.ref a1)])) _
    refine X5_2.arraylength hx (by rw [e5_2]; exact (Ar.other W4_2 (Ne.symm ne1)).1) (State.isArrayOf_alike hZ.alike (Ar.other W4_2 (Ne.symm ne1)).2.1) (g := (mkF m 41 #[.val (.ref a1), .val (.int z)] [(.ref r), (.ref a1)])) rfl rfl (hb hby d3_41) _ ?_
    rw [len_of Sz Nz]
    show Steps p.tables e below (T5_2.setTop (mkF m 42 #[.val (.ref a1), .val (.int z)] [(.int z), (.ref a1)])) _
    refine st6_2 _ ?_
    exact kt
  obtain ⟨fs, hr, hrun, hended, hW, hsame⟩ := X6_2.leave (v := none) (fun _ => rfl)
  refine ⟨_, _, pre0 _ ?_, hrun, hended, _, _, rfl, ?_, ⟨_, rfl⟩, hW, hsame.mono (by decide) (by decide)⟩
  · show Steps p.tables e below (s₁.setTop (mkF m 0 #[.val (.ref a1), .unset] [])) _
    refine st_1p _ ?_
    refine stL _ ?_
    refine st_2p _ ?_
    exact X6_2.returnOut hx Bd.returns (hb hby d3_45) hr
  · show Q3 Z a1 r d z N hd sz h0 n0 _ T6_2.heap _
    rw [e6_2]
    exact ⟨rfl, N6_2, Nat.le_trans ZL K6_2.1, (Ex.wr W4_2).wr W6_2, ((Fri.other W4_2 (Or.inr (slot_ne (Or.inr (hw _ (List.mem_of_getElem? (i := 11) rfl))) (Or.inl (hw _ (List.mem_of_getElem? (i := 21) rfl))) (by decide) (t := (.array .int)) (t' := .int) (by decide) (by decide)))).other W6_2 (Or.inr (slot_ne (Or.inr (hw _ (List.mem_of_getElem? (i := 11) rfl))) (Or.inl (hw _ (List.mem_of_getElem? (i := 23) rfl))) (by decide) (t := (.array .int)) (t' := .int) (by decide) (by decide)))), ((Fqu.other W4_2 (Or.inr (slot_ne (Or.inr (hw _ (List.mem_of_getElem? (i := 14) rfl))) (Or.inl (hw _ (List.mem_of_getElem? (i := 21) rfl))) (by decide) (t := (.array .boolean)) (t' := .int) (by decide) (by decide)))).other W6_2 (Or.inr (slot_ne (Or.inr (hw _ (List.mem_of_getElem? (i := 14) rfl))) (Or.inl (hw _ (List.mem_of_getElem? (i := 23) rfl))) (by decide) (t := (.array .boolean)) (t' := .int) (by decide) (by decide)))), (Fw4_2.other W6_2 (Or.inr (slot_ne (Or.inl (hw _ (List.mem_of_getElem? (i := 21) rfl))) (Or.inl (hw _ (List.mem_of_getElem? (i := 23) rfl))) (by decide) (t := .int) (t' := .int) (by decide) (by decide)))), Fw6_2, ⟨cr, (Ar.other W4_2 (Ne.symm ne1)).other W6_2 (Ne.symm ne1), Sr, Hr⟩, ⟨cd, (Ad.other W4_2 (Ne.symm ne2)).other W6_2 (Ne.symm ne2), Sd, Hd⟩⟩
theorem pd_3 : parseMethodDescriptor "()I" = some ⟨[], some .int⟩ := by decide +kernel
theorem pn_0 : plainName "com/example/assignor/assignor/NodeQueueFillWithAllPinLaw" = true := by first | (simp [plainName, overriddenIn]; done) | decide +kernel
theorem pd_0 : parseMethodDescriptor "(I)V" = some ⟨[.int], none⟩ := by decide +kernel
theorem pd_1 : parseMethodDescriptor "()V" = some ⟨[], none⟩ := by decide +kernel
theorem pd_2 : parseMethodDescriptor "()Z" = some ⟨[], some .boolean⟩ := by decide +kernel
theorem ef_0 (m : MethodId) (x0 : Int32) (x1 : Int32) (x2 : Int32) (x3 : Int32) : entryFrame m #[(.int x0), (.int x1), (.int x2), (.int x3)] maxLocals = mkF m 0 #[.val (.int x0), .val (.int x1), .val (.int x2), .val (.int x3), .unset, .unset, .unset, .unset] [] := by first | (simp [entryFrame, mkF, argsToLocals, Value.category, maxLocals]; done) | rfl
def Q0 (Z : State) (p1 : Int32) (p2 : Int32) (p3 : Int32) (p4 : Int32) (h0 : Heap) (n0 : Nat) (v : Option Value) (h : Heap) (L : List Loc) : Prop := v = some (.int (1 : Int32)) ∧ Fr n0 L
set_option maxRecDepth 65536 in
set_option maxHeartbeats 40000000 in
theorem rm0 (l : Launch) (Z : State) (a0 : Array Value) (hw : ∀ d ∈ tables_1, d.before a0 Z = true) (ws : List Jvm.Cond) (p1 : Int32) (p2 : Int32) (p3 : Int32) (p4 : Int32) (h0 : Heap) (n0 : Nat) (Z0 : n0 ≤ h0.size) :
    MetFree l x (head1 (Jvm.Cond.code x code maxLocals ret :: ws) room_1) (fun a U => a = #[(.int p1), (.int p2), (.int p3), (.int p4)] ∧ Z.Warmed39 U.vm ∧ U.heap = h0) (fun _ _ _ _ _ => True) (fun _ U o U' => ∃ v L, o = .returned v ∧ Q0 Z p1 p2 p3 p4 h0 n0 v U'.heap L ∧ FrameEnd U o U' L room_1.cells room_1.slots) := by
  refine MetFree.of_bodySF (plainFor_of_name pn_0) hisR ?_
  intro p e s m args below meth c s₁ Bd hml0 hP hK
  obtain ⟨rfl, hZ, hh⟩ := hP
  have hx := Bd.exec
  have hby := Bd.bytes
  have hml : c.maxLocals = 8 := hml0
  have hown : s.vm.findClass "com/example/assignor/assignor/NodeQueueFillWithAllPinLaw" = some m.cls := findClass_of_methodNamed Bd.named
  have hnm := (name_of_methodNamed Bd.named Bd.method).1
  have X0 : Stand p l e room_1 s m #[(.int p1), (.int p2), (.int p3), (.int p4)] below meth c s₁ [] 0 0 := Stand.of_body Bd
  have e0 : s₁.heap = h0 := by rw [← hh, Bd.state]; rfl
  have N0 := Fr.nil n0
  have pre0 : ∀ t, Steps p.tables e below (s₁.setTop (mkF m 0 #[.val (.int p1), .val (.int p2), .val (.int p3), .val (.int p4), .unset, .unset, .unset, .unset] [])) t → Steps p.tables e below (s₁.setTop (entryFrame m #[(.int p1), (.int p2), (.int p3), (.int p4)] maxLocals)) t := fun t k => castTop (ef_0 m p1 p2 p3 p4) k
  have hy5_1 : (5 : Int32) ≠ 0 := (by decide)
  have st_1p : ∀ target, Steps p.tables e below (s₁.setTop (mkF m 8 #[.val (.int p1), .val (.int p2), .val (.int p3), .val (.int p4), .val (.int (own_rem (p1 &&& (7 : Int32)) (5 : Int32))), .unset, .unset, .unset] [])) target → Steps p.tables e below (s₁.setTop (mkF m 0 #[.val (.int p1), .val (.int p2), .val (.int p3), .val (.int p4), .unset, .unset, .unset, .unset] [])) target := by
    intro target kt
    show Steps p.tables e below (s₁.setTop (mkF m 0 #[.val (.int p1), .val (.int p2), .val (.int p3), .val (.int p4), .unset, .unset, .unset, .unset] [])) _
    refine XS.iloadN X0.here hx rfl (hb hby at_0) rfl ?_
    show Steps p.tables e below (s₁.setTop (mkF m 1 #[.val (.int p1), .val (.int p2), .val (.int p3), .val (.int p4), .unset, .unset, .unset, .unset] [(.int p1)])) _
    refine XS.bipush X0.here hx rfl (hb hby at_1) ?_
    show Steps p.tables e below (s₁.setTop (mkF m 3 #[.val (.int p1), .val (.int p2), .val (.int p3), .val (.int p4), .unset, .unset, .unset, .unset] [(.int (7 : Int32)), (.int p1)])) _
    refine XS.iand X0.here hx rfl (hb hby at_3) rfl ?_
    show Steps p.tables e below (s₁.setTop (mkF m 4 #[.val (.int p1), .val (.int p2), .val (.int p3), .val (.int p4), .unset, .unset, .unset, .unset] [(.int (p1 &&& (7 : Int32)))])) _
    refine XS.iconst X0.here hx rfl (hb hby at_4) ?_
    show Steps p.tables e below (s₁.setTop (mkF m 5 #[.val (.int p1), .val (.int p2), .val (.int p3), .val (.int p4), .unset, .unset, .unset, .unset] [(.int (5 : Int32)), (.int (p1 &&& (7 : Int32)))])) _
    refine XS.irem X0.here hx rfl (hb hby at_5) rfl hy5_1 ?_
    show Steps p.tables e below (s₁.setTop (mkF m 6 #[.val (.int p1), .val (.int p2), .val (.int p3), .val (.int p4), .unset, .unset, .unset, .unset] [(.int (own_rem (p1 &&& (7 : Int32)) (5 : Int32)))])) _
    refine XS.istore X0.here hx rfl (hb hby at_6) rfl (l' := #[.val (.int p1), .val (.int p2), .val (.int p3), .val (.int p4), .val (.int (own_rem (p1 &&& (7 : Int32)) (5 : Int32))), .unset, .unset, .unset]) rfl ?_
    exact kt
  obtain ⟨nn, en⟩ : ∃ z : Int32, z = own_rem (p1 &&& (7 : Int32)) (5 : Int32) := ⟨_, rfl⟩
  rw [← en] at st_1p
  have hn : 0 ≤ nn.toInt ∧ nn.toInt ≤ 4 := by rw [en]; exact own_n5 _
  clear en
  obtain ⟨T5_2, h5_2, X5_2, e5_2, E5_2, A5_2, D5_2, -, st5_2⟩ := newO X0 hx hZ hown (hw _ (List.mem_of_getElem? (i := 0) rfl)) (hw _ (List.mem_of_getElem? (i := 1) rfl)) (hw _ (List.mem_of_getElem? (i := 2) rfl)) e0 (g := (mkF m 8 #[.val (.int p1), .val (.int p2), .val (.int p3), .val (.int p4), .val (.int nn), .unset, .unset, .unset] [])) rfl (hb hby at_8) (by decide) (by decide)
  obtain ⟨b5_2, g5_2⟩ : ∃ z, z = h0.size := ⟨_, rfl⟩
  rw [← g5_2] at A5_2 D5_2 st5_2
  have F_ring_b5_2 : Fld Z h5_2 b5_2 "com/example/assignor/assignor/NodeQueue" "ring" "[I" .null := D5_2 (Or.inr (hw _ (List.mem_of_getElem? (i := 11) rfl))) (ty := (.array .int)) (by decide)
  have F_queued_b5_2 : Fld Z h5_2 b5_2 "com/example/assignor/assignor/NodeQueue" "queued" "[Z" .null := D5_2 (Or.inr (hw _ (List.mem_of_getElem? (i := 14) rfl))) (ty := (.array .boolean)) (by decide)
  have F_head_b5_2 : Fld Z h5_2 b5_2 "com/example/assignor/assignor/NodeQueue" "head" "I" (.int (0 : Int32)) := D5_2 (Or.inl (hw _ (List.mem_of_getElem? (i := 21) rfl))) (ty := .int) (by decide)
  have F_size_b5_2 : Fld Z h5_2 b5_2 "com/example/assignor/assignor/NodeQueue" "size" "I" (.int (0 : Int32)) := D5_2 (Or.inl (hw _ (List.mem_of_getElem? (i := 23) rfl))) (ty := .int) (by decide)
  have E_b5_2 := A5_2
  have g_b5_2 : n0 ≤ b5_2 := Nat.le_trans Z0 (Nat.le_of_eq g5_2.symm)
  have sz_b5_2 : h0.size ≤ b5_2 := (Nat.le_trans (Keep.refl h0 []).1 (Nat.le_of_eq g5_2.symm))
  have K5_2 : Keep h0 h5_2 [] := (Keep.refl h0 []).ext E5_2
  obtain ⟨_, _, ⟨T6_2, L6_2, k6_2, n6_2⟩, -, X6_2, ⟨Lc6_2, hQ6_2, l6_2, y6_2, z6_2⟩, st6_2⟩ := X5_2.specialBack hx (y := (⟨"com/example/assignor/assignor/NodeQueue", "<init>", "(I)V"⟩ : MethodName)) rfl hown (mvT hZ (hw _ (List.mem_of_getElem? (i := 3) rfl))) (mvT hZ (hw _ (List.mem_of_getElem? (i := 4) rfl))) (mvT hZ (hw _ (List.mem_of_getElem? (i := 5) rfl))) (by decide) (backOf (W := 1) (rm1 l Z a0 hw [] b5_2 nn .null .null h5_2 n0 (Nat.le_trans Z0 E5_2.1) E_b5_2 F_ring_b5_2 g_b5_2 F_queued_b5_2 F_head_b5_2 F_size_b5_2 (own_nn hn.1) (own_cap hn.2)) hZ (hw _ (List.mem_of_getElem? (i := 5) rfl)) (hw _ (List.mem_of_getElem? (i := 2) rfl)) (by decide) (by decide)) (g := (mkF m 14 #[.val (.int p1), .val (.int p2), .val (.int p3), .val (.int p4), .val (.int nn), .unset, .unset, .unset] [(.int nn), (.ref b5_2), (.ref b5_2)])) rfl (by rw [hml]; rfl) (Steps.refl _) (a := b5_2) (argsL := [(.int nn)]) (rest := [(.ref b5_2)]) (lenOf pd_0 rfl) rfl (by show 2 * 0 + _ ≤ _; exact Nat.le_of_eq rfl) (hb hby at_14) (fun _ _ => ⟨rfl, e5_2, (by decide : 0 + 1 + 2 ≤ _), (by decide : 0 + 4 + 8 ≤ _)⟩)
  dsimp only [Pt.U, Pt.locs, Pt.cells, Pt.slots] at X6_2 l6_2 y6_2 z6_2 st6_2 hQ6_2
  subst l6_2 y6_2 z6_2
  obtain ⟨rfl, N6q_2, K6_2, Ex6_2, r, d, gr, gd, ne1, ne2, ne3, Fri, Fqu, Fhe, Fsi, ⟨cr, Ar, Sr⟩, ⟨cd, Ad, Sd, Hd⟩⟩ := hQ6_2
  have N6_2 := Fr.app N0 N6q_2
  have st_2p : ∀ target, Steps p.tables e below (T6_2.setTop (mkF m 19 #[.val (.int p1), .val (.int p2), .val (.int p3), .val (.int p4), .val (.int nn), .val (.ref b5_2), .unset, .unset] [])) target → Steps p.tables e below (s₁.setTop (mkF m 8 #[.val (.int p1), .val (.int p2), .val (.int p3), .val (.int p4), .val (.int nn), .unset, .unset, .unset] [])) target := by
    intro target kt
    show Steps p.tables e below (s₁.setTop (mkF m 8 #[.val (.int p1), .val (.int p2), .val (.int p3), .val (.int p4), .val (.int nn), .unset, .unset, .unset] [])) _
    refine st5_2 _ ?_
    show Steps p.tables e below (T5_2.setTop (mkF m 11 #[.val (.int p1), .val (.int p2), .val (.int p3), .val (.int p4), .val (.int nn), .unset, .unset, .unset] [(.ref b5_2)])) _
    refine XS.dup X5_2.here hx rfl (hb hby at_11) rfl rfl ?_
    show Steps p.tables e below (T5_2.setTop (mkF m 12 #[.val (.int p1), .val (.int p2), .val (.int p3), .val (.int p4), .val (.int nn), .unset, .unset, .unset] [(.ref b5_2), (.ref b5_2)])) _
    refine XS.iload X5_2.here hx rfl (hb hby at_12) rfl ?_
    show Steps p.tables e below (T5_2.setTop (mkF m 14 #[.val (.int p1), .val (.int p2), .val (.int p3), .val (.int p4), .val (.int nn), .unset, .unset, .unset] [(.int nn), (.ref b5_2), (.ref b5_2)])) _
    refine st6_2.trans ?_
    show Steps p.tables e below (T6_2.setTop (mkF m 17 #[.val (.int p1), .val (.int p2), .val (.int p3), .val (.int p4), .val (.int nn), .unset, .unset, .unset] [(.ref b5_2)])) _
    refine XS.astore X6_2.here hx rfl (hb hby at_17) rfl rfl (l' := #[.val (.int p1), .val (.int p2), .val (.int p3), .val (.int p4), .val (.int nn), .val (.ref b5_2), .unset, .unset]) rfl ?_
    exact kt
  have Zc : n0 ≤ T6_2.heap.size := Nat.le_trans (Nat.le_trans Z0 E5_2.1) K6_2.1
  have Ex : Exa Z T6_2.heap b5_2 "com/example/assignor/assignor/NodeQueue" := Ex6_2
  have hnn := own_nn hn.1
  have hcap := own_cap hn.2
  obtain ⟨TP, hP', LP, hd, sz, XP, eP, ZP, NP, SP, stP⟩ : ∃ (T' : State) (h' : Heap) (L' : List Loc) (hd sz : Value), Stand p l e room_1 s m #[(.int p1), (.int p2), (.int p3), (.int p4)] below meth c T' L' (0 + 1 + 2) (0 + 4 + 8) ∧ T'.heap = h' ∧ n0 ≤ h'.size ∧ Fr n0 L' ∧ own_St Z h' b5_2 r d nn.toNatClampNeg hd sz 0 0 ∧ ∀ target, Steps p.tables e below (T'.setTop (mkF m 54 #[.val (.int p1), .val (.int p2), .val (.int p3), .val (.int p4), .val (.int nn), .val (.ref b5_2), .unset, .unset] [])) target → Steps p.tables e below (T6_2.setTop (mkF m 19 #[.val (.int p1), .val (.int p2), .val (.int p3), .val (.int p4), .val (.int nn), .val (.ref b5_2), .unset, .unset] [])) target := by
    by_cases hp : (0 : Int32) < nn
    · by_cases hb1 : (p2 &&& (1 : Int32)) = (0 : Int32)
      · have hc21_3 : (0 : Int32) < nn := hp
        have hc27_3 : (p2 &&& (1 : Int32)) = (0 : Int32) := hb1
        have st_3p : ∀ target, Steps p.tables e below (T6_2.setTop (mkF m 54 #[.val (.int p1), .val (.int p2), .val (.int p3), .val (.int p4), .val (.int nn), .val (.ref b5_2), .unset, .unset] [])) target → Steps p.tables e below (T6_2.setTop (mkF m 19 #[.val (.int p1), .val (.int p2), .val (.int p3), .val (.int p4), .val (.int nn), .val (.ref b5_2), .unset, .unset] [])) target := by
          intro target kt
          show Steps p.tables e below (T6_2.setTop (mkF m 19 #[.val (.int p1), .val (.int p2), .val (.int p3), .val (.int p4), .val (.int nn), .val (.ref b5_2), .unset, .unset] [])) _
          refine XS.iload X6_2.here hx rfl (hb hby at_19) rfl ?_
          show Steps p.tables e below (T6_2.setTop (mkF m 21 #[.val (.int p1), .val (.int p2), .val (.int p3), .val (.int p4), .val (.int nn), .val (.ref b5_2), .unset, .unset] [(.int nn)])) _
          refine XS.ifNo X6_2.here hx rfl (hb hby at_21) rfl ((if0 _ _).trans (tlt hc21_3).2.2.2) ?_
          show Steps p.tables e below (T6_2.setTop (mkF m 24 #[.val (.int p1), .val (.int p2), .val (.int p3), .val (.int p4), .val (.int nn), .val (.ref b5_2), .unset, .unset] [])) _
          refine XS.iloadN X6_2.here hx rfl (hb hby at_24) rfl ?_
          show Steps p.tables e below (T6_2.setTop (mkF m 25 #[.val (.int p1), .val (.int p2), .val (.int p3), .val (.int p4), .val (.int nn), .val (.ref b5_2), .unset, .unset] [(.int p2)])) _
          refine XS.iconst X6_2.here hx rfl (hb hby at_25) ?_
          show Steps p.tables e below (T6_2.setTop (mkF m 26 #[.val (.int p1), .val (.int p2), .val (.int p3), .val (.int p4), .val (.int nn), .val (.ref b5_2), .unset, .unset] [(.int (1 : Int32)), (.int p2)])) _
          refine XS.iand X6_2.here hx rfl (hb hby at_26) rfl ?_
          show Steps p.tables e below (T6_2.setTop (mkF m 27 #[.val (.int p1), .val (.int p2), .val (.int p3), .val (.int p4), .val (.int nn), .val (.ref b5_2), .unset, .unset] [(.int (p2 &&& (1 : Int32)))])) _
          refine XS.ifYes X6_2.here hx rfl (pc0 := 27) (pc' := 54) rfl (hb hby at_27) rfl ((if0 _ _).trans (teq hc27_3).1) (by decide) (by decide) ?_
          exact kt
        exact ⟨_, _, _, (.int 0), (.int 0), X6_2, rfl, Zc, N6_2, ⟨Ex, Fri, Fqu, Fhe, Fsi, ⟨cr, Ar, Sr, fun x hx => absurd hx (Nat.not_lt_zero x)⟩, ⟨cd, Ad, Sd, fun x hx => absurd hx (Nat.not_lt_zero x)⟩⟩, fun target kt => st_3p _ (kt)⟩
      · have hpos := own_pos hp
        have hcc := own_rem_in p3 hpos
        have ccl : (own_rem (p3 &&& (2147483647 : Int32)) nn) < nn := by rw [Int32.lt_iff_toInt_lt]; exact hcc.2
        have hind : ¬ ((own_rem (p3 &&& (2147483647 : Int32)) nn) < 0 ∨ cd.slots.size ≤ (own_rem (p3 &&& (2147483647 : Int32)) nn).toNatClampNeg) := inb_of Sd ⟨own_nn hcc.1, ccl⟩
        have h00 : own_rem ((0 : Int32) + (0 : Int32)) nn = 0 := Int32.toInt.inj (by rw [own_rem_toInt (by decide) hpos]; simp)
        have hin0 : ¬ ((0 : Int32) < 0 ∨ cr.slots.size ≤ ((0 : Int32)).toNatClampNeg) := inb_of Sr ⟨by decide, hp⟩
        have hc21_4 : (0 : Int32) < nn := hp
        have hc27_4 : ¬ ((p2 &&& (1 : Int32)) = (0 : Int32)) := hb1
        have hy38_4 : nn ≠ 0 := own_nz hpos
        obtain ⟨cq5_4, kq5_4, q5a_4, q5b_4, q5c_4⟩ := isOf hZ (rfl : T6_2.heap = _) Ex
        obtain ⟨_, _, ⟨T5_4, L5_4, k5_4, n5_4⟩, -, X5_4, ⟨Lc5_4, hQ5_4, l5_4, y5_4, z5_4⟩, st5_4⟩ := X6_2.virtualBack hx (y := (⟨"com/example/assignor/assignor/NodeQueue", "offer", "(I)V"⟩ : MethodName)) (z := (⟨"com/example/assignor/assignor/NodeQueue", "offer", "(I)V"⟩ : MethodName)) hown (mvT hZ (hw _ (List.mem_of_getElem? (i := 30) rfl))) (mvT hZ (hw _ (List.mem_of_getElem? (i := 31) rfl))) (notFace_of_selects (args := #[]) (mvT hZ (hw _ (List.mem_of_getElem? (i := 33) rfl)))) (mvT hZ (hw _ (List.mem_of_getElem? (i := 33) rfl))) (mvT hZ (hw _ (List.mem_of_getElem? (i := 32) rfl))) (by decide) (backOf (W := 0) (rm5 l Z a0 hw [] b5_2 (own_rem (p3 &&& (2147483647 : Int32)) nn) d (0 : Int32) cd r (0 : Int32) (0 : Int32) cr nn T6_2.heap n0 Zc Fqu Ad hind (Hd _ (Nat.lt_of_not_le fun u => hind (Or.inr u))) Fri Fhe Fsi Ar Sr hnn (own_nz hpos) (by rw [h00]; exact hin0) gr hind gd Ex g_b5_2 rfl ne1 ne2 ne3) hZ (hw _ (List.mem_of_getElem? (i := 34) rfl)) (hw _ (List.mem_of_getElem? (i := 2) rfl)) (by decide) (by decide)) q5a_4 q5c_4 (g := (mkF m 39 #[.val (.int p1), .val (.int p2), .val (.int p3), .val (.int p4), .val (.int nn), .val (.ref b5_2), .unset, .unset] [(.int (own_rem (p3 &&& (2147483647 : Int32)) nn)), (.ref b5_2)])) rfl (by rw [hml]; rfl) (Steps.refl _) (argsL := [(.int (own_rem (p3 &&& (2147483647 : Int32)) nn))]) (rest := []) (lenOf pd_0 rfl) rfl (by show 2 * 0 + _ ≤ _; exact Nat.le_of_eq rfl) (hb hby at_39) (fun _ _ => ⟨rfl, (rfl : T6_2.heap = _), (by decide : 0 + 1 + 2 ≤ _), (by decide : 0 + 4 + 8 ≤ _)⟩)
        dsimp only [Pt.U, Pt.locs, Pt.cells, Pt.slots] at X5_4 l5_4 y5_4 z5_4 st5_4 hQ5_4
        subst l5_4 y5_4 z5_4
        obtain ⟨rfl, N5q_4, K5_4, Ex5_4, Fri5, Fqu5, Fhe5, Fsi5, ⟨cr5, Ar5, Sr5, Hr5⟩, ⟨cd5, Ad5, Sd5⟩⟩ := hQ5_4
        have N5_4 := Fr.app N6_2 N5q_4
        have st_4p : ∀ target, Steps p.tables e below (T5_4.setTop (mkF m 42 #[.val (.int p1), .val (.int p2), .val (.int p3), .val (.int p4), .val (.int nn), .val (.ref b5_2), .unset, .unset] [])) target → Steps p.tables e below (T6_2.setTop (mkF m 19 #[.val (.int p1), .val (.int p2), .val (.int p3), .val (.int p4), .val (.int nn), .val (.ref b5_2), .unset, .unset] [])) target := by
          intro target kt
          show Steps p.tables e below (T6_2.setTop (mkF m 19 #[.val (.int p1), .val (.int p2), .val (.int p3), .val (.int p4), .val (.int nn), .val (.ref b5_2), .unset, .unset] [])) _
          refine XS.iload X6_2.here hx rfl (hb hby at_19) rfl ?_
          show Steps p.tables e below (T6_2.setTop (mkF m 21 #[.val (.int p1), .val (.int p2), .val (.int p3), .val (.int p4), .val (.int nn), .val (.ref b5_2), .unset, .unset] [(.int nn)])) _
          refine XS.ifNo X6_2.here hx rfl (hb hby at_21) rfl ((if0 _ _).trans (tlt hc21_4).2.2.2) ?_
          show Steps p.tables e below (T6_2.setTop (mkF m 24 #[.val (.int p1), .val (.int p2), .val (.int p3), .val (.int p4), .val (.int nn), .val (.ref b5_2), .unset, .unset] [])) _
          refine XS.iloadN X6_2.here hx rfl (hb hby at_24) rfl ?_
          show Steps p.tables e below (T6_2.setTop (mkF m 25 #[.val (.int p1), .val (.int p2), .val (.int p3), .val (.int p4), .val (.int nn), .val (.ref b5_2), .unset, .unset] [(.int p2)])) _
          refine XS.iconst X6_2.here hx rfl (hb hby at_25) ?_
          show Steps p.tables e below (T6_2.setTop (mkF m 26 #[.val (.int p1), .val (.int p2), .val (.int p3), .val (.int p4), .val (.int nn), .val (.ref b5_2), .unset, .unset] [(.int (1 : Int32)), (.int p2)])) _
          refine XS.iand X6_2.here hx rfl (hb hby at_26) rfl ?_
          show Steps p.tables e below (T6_2.setTop (mkF m 27 #[.val (.int p1), .val (.int p2), .val (.int p3), .val (.int p4), .val (.int nn), .val (.ref b5_2), .unset, .unset] [(.int (p2 &&& (1 : Int32)))])) _
          refine XS.ifNo X6_2.here hx rfl (hb hby at_27) rfl ((if0 _ _).trans (feq hc27_4).1) ?_
          show Steps p.tables e below (T6_2.setTop (mkF m 30 #[.val (.int p1), .val (.int p2), .val (.int p3), .val (.int p4), .val (.int nn), .val (.ref b5_2), .unset, .unset] [])) _
          refine XS.aload X6_2.here hx rfl (hb hby at_30) rfl rfl ?_
          show Steps p.tables e below (T6_2.setTop (mkF m 32 #[.val (.int p1), .val (.int p2), .val (.int p3), .val (.int p4), .val (.int nn), .val (.ref b5_2), .unset, .unset] [(.ref b5_2)])) _
          refine XS.iloadN X6_2.here hx rfl (hb hby at_32) rfl ?_
          show Steps p.tables e below (T6_2.setTop (mkF m 33 #[.val (.int p1), .val (.int p2), .val (.int p3), .val (.int p4), .val (.int nn), .val (.ref b5_2), .unset, .unset] [(.int p3), (.ref b5_2)])) _
          refine X6_2.ldcInt hx hown (mvT hZ (hw _ (List.mem_of_getElem? (i := 29) rfl))) (g := (mkF m 33 #[.val (.int p1), .val (.int p2), .val (.int p3), .val (.int p4), .val (.int nn), .val (.ref b5_2), .unset, .unset] [(.int p3), (.ref b5_2)])) rfl (hb hby at_33) _ ?_
          show Steps p.tables e below (T6_2.setTop (mkF m 35 #[.val (.int p1), .val (.int p2), .val (.int p3), .val (.int p4), .val (.int nn), .val (.ref b5_2), .unset, .unset] [(.int (2147483647 : Int32)), (.int p3), (.ref b5_2)])) _
          refine XS.iand X6_2.here hx rfl (hb hby at_35) rfl ?_
          show Steps p.tables e below (T6_2.setTop (mkF m 36 #[.val (.int p1), .val (.int p2), .val (.int p3), .val (.int p4), .val (.int nn), .val (.ref b5_2), .unset, .unset] [(.int (p3 &&& (2147483647 : Int32))), (.ref b5_2)])) _
          refine XS.iload X6_2.here hx rfl (hb hby at_36) rfl ?_
          show Steps p.tables e below (T6_2.setTop (mkF m 38 #[.val (.int p1), .val (.int p2), .val (.int p3), .val (.int p4), .val (.int nn), .val (.ref b5_2), .unset, .unset] [(.int nn), (.int (p3 &&& (2147483647 : Int32))), (.ref b5_2)])) _
          refine XS.irem X6_2.here hx rfl (hb hby at_38) rfl hy38_4 ?_
          show Steps p.tables e below (T6_2.setTop (mkF m 39 #[.val (.int p1), .val (.int p2), .val (.int p3), .val (.int p4), .val (.int nn), .val (.ref b5_2), .unset, .unset] [(.int (own_rem (p3 &&& (2147483647 : Int32)) nn)), (.ref b5_2)])) _
          refine st5_4.trans ?_
          exact kt
        rw [h00] at Hr5
        have Z5 : n0 ≤ T5_4.heap.size := Nat.le_trans Zc K5_4.1
        have S5 : own_St Z T5_4.heap b5_2 r d nn.toNatClampNeg (.int 0) (.int ((0 : Int32) + (1 : Int32))) 0 0 := ⟨Ex5_4, Fri5, Fqu5, Fhe5, Fsi5, ⟨cr5, Ar5, Sr5.trans Sr, fun x hx => absurd hx (Nat.not_lt_zero x)⟩, ⟨cd5, Ad5, Sd5.trans Sd, fun x hx => absurd hx (Nat.not_lt_zero x)⟩⟩
        by_cases hb2 : (p2 &&& (2 : Int32)) = (0 : Int32)
        · have hc45_5 : (p2 &&& (2 : Int32)) = (0 : Int32) := hb2
          have st_5p : ∀ target, Steps p.tables e below (T5_4.setTop (mkF m 54 #[.val (.int p1), .val (.int p2), .val (.int p3), .val (.int p4), .val (.int nn), .val (.ref b5_2), .unset, .unset] [])) target → Steps p.tables e below (T5_4.setTop (mkF m 42 #[.val (.int p1), .val (.int p2), .val (.int p3), .val (.int p4), .val (.int nn), .val (.ref b5_2), .unset, .unset] [])) target := by
            intro target kt
            show Steps p.tables e below (T5_4.setTop (mkF m 42 #[.val (.int p1), .val (.int p2), .val (.int p3), .val (.int p4), .val (.int nn), .val (.ref b5_2), .unset, .unset] [])) _
            refine XS.iloadN X5_4.here hx rfl (hb hby at_42) rfl ?_
            show Steps p.tables e below (T5_4.setTop (mkF m 43 #[.val (.int p1), .val (.int p2), .val (.int p3), .val (.int p4), .val (.int nn), .val (.ref b5_2), .unset, .unset] [(.int p2)])) _
            refine XS.iconst X5_4.here hx rfl (hb hby at_43) ?_
            show Steps p.tables e below (T5_4.setTop (mkF m 44 #[.val (.int p1), .val (.int p2), .val (.int p3), .val (.int p4), .val (.int nn), .val (.ref b5_2), .unset, .unset] [(.int (2 : Int32)), (.int p2)])) _
            refine XS.iand X5_4.here hx rfl (hb hby at_44) rfl ?_
            show Steps p.tables e below (T5_4.setTop (mkF m 45 #[.val (.int p1), .val (.int p2), .val (.int p3), .val (.int p4), .val (.int nn), .val (.ref b5_2), .unset, .unset] [(.int (p2 &&& (2 : Int32)))])) _
            refine XS.ifYes X5_4.here hx rfl (pc0 := 45) (pc' := 54) rfl (hb hby at_45) rfl ((if0 _ _).trans (teq hc45_5).1) (by decide) (by decide) ?_
            exact kt
          exact ⟨_, _, _, (.int 0), (.int ((0 : Int32) + (1 : Int32))), X5_4, rfl, Z5, N5_4, S5, fun target kt => st_4p _ (st_5p _ (kt))⟩
        · have hin5 : ¬ ((0 : Int32) < 0 ∨ cr5.slots.size ≤ ((0 : Int32)).toNatClampNeg) := inb_of (Sr5.trans Sr) ⟨by decide, hp⟩
          have hind5 : ¬ ((own_rem (p3 &&& (2147483647 : Int32)) nn) < 0 ∨ cd5.slots.size ≤ (own_rem (p3 &&& (2147483647 : Int32)) nn).toNatClampNeg) := inb_of (Sd5.trans Sd) ⟨own_nn hcc.1, ccl⟩
          have hc45_6 : ¬ ((p2 &&& (2 : Int32)) = (0 : Int32)) := hb2
          obtain ⟨cq5_6, kq5_6, q5a_6, q5b_6, q5c_6⟩ := isOf hZ (rfl : T5_4.heap = _) Ex5_4
          obtain ⟨_, _, ⟨T5_6, L5_6, k5_6, n5_6⟩, -, X5_6, ⟨Lc5_6, hQ5_6, l5_6, y5_6, z5_6⟩, st5_6⟩ := X5_4.virtualBack hx (y := (⟨"com/example/assignor/assignor/NodeQueue", "poll", "()I"⟩ : MethodName)) (z := (⟨"com/example/assignor/assignor/NodeQueue", "poll", "()I"⟩ : MethodName)) hown (mvT hZ (hw _ (List.mem_of_getElem? (i := 35) rfl))) (mvT hZ (hw _ (List.mem_of_getElem? (i := 36) rfl))) (notFace_of_selects (args := #[]) (mvT hZ (hw _ (List.mem_of_getElem? (i := 38) rfl)))) (mvT hZ (hw _ (List.mem_of_getElem? (i := 38) rfl))) (mvT hZ (hw _ (List.mem_of_getElem? (i := 37) rfl))) (by decide) (backOf (W := 0) (rm6 l Z a0 hw [] b5_2 r (0 : Int32) (own_rem (p3 &&& (2147483647 : Int32)) nn) cr5 nn ((0 : Int32) + (1 : Int32)) d cd5 T5_4.heap n0 Z5 Fri5 Fhe5 Ar5 hin5 Hr5 (Sr5.trans Sr) hnn (own_nz hpos) Ex5_4 g_b5_2 Fsi5 Fqu5 Ad5 hind5 gd ne2) hZ (hw _ (List.mem_of_getElem? (i := 39) rfl)) (hw _ (List.mem_of_getElem? (i := 2) rfl)) (by decide) (by decide)) q5a_6 q5c_6 (g := (mkF m 50 #[.val (.int p1), .val (.int p2), .val (.int p3), .val (.int p4), .val (.int nn), .val (.ref b5_2), .unset, .unset] [(.ref b5_2)])) rfl (by rw [hml]; rfl) (Steps.refl _) (argsL := []) (rest := []) (lenOf pd_3 rfl) rfl (by show 2 * 0 + _ ≤ _; exact Nat.le_of_eq rfl) (hb hby at_50) (fun _ _ => ⟨rfl, (rfl : T5_4.heap = _), (by decide : 0 + 1 + 2 ≤ _), (by decide : 0 + 4 + 8 ≤ _)⟩)
          dsimp only [Pt.U, Pt.locs, Pt.cells, Pt.slots] at X5_6 l5_6 y5_6 z5_6 st5_6 hQ5_6
          subst l5_6 y5_6 z5_6
          obtain ⟨rfl, N5q_6, K6_6, Ex6_6, Fri6, Fqu6, Fhe6, Fsi6, ⟨cd6, Ad6, Sd6⟩⟩ := hQ5_6
          have N5_6 := Fr.app N5_4 N5q_6
          have st_6p : ∀ target, Steps p.tables e below (T5_6.setTop (mkF m 54 #[.val (.int p1), .val (.int p2), .val (.int p3), .val (.int p4), .val (.int nn), .val (.ref b5_2), .unset, .unset] [])) target → Steps p.tables e below (T5_4.setTop (mkF m 42 #[.val (.int p1), .val (.int p2), .val (.int p3), .val (.int p4), .val (.int nn), .val (.ref b5_2), .unset, .unset] [])) target := by
            intro target kt
            show Steps p.tables e below (T5_4.setTop (mkF m 42 #[.val (.int p1), .val (.int p2), .val (.int p3), .val (.int p4), .val (.int nn), .val (.ref b5_2), .unset, .unset] [])) _
            refine XS.iloadN X5_4.here hx rfl (hb hby at_42) rfl ?_
            show Steps p.tables e below (T5_4.setTop (mkF m 43 #[.val (.int p1), .val (.int p2), .val (.int p3), .val (.int p4), .val (.int nn), .val (.ref b5_2), .unset, .unset] [(.int p2)])) _
            refine XS.iconst X5_4.here hx rfl (hb hby at_43) ?_
            show Steps p.tables e below (T5_4.setTop (mkF m 44 #[.val (.int p1), .val (.int p2), .val (.int p3), .val (.int p4), .val (.int nn), .val (.ref b5_2), .unset, .unset] [(.int (2 : Int32)), (.int p2)])) _
            refine XS.iand X5_4.here hx rfl (hb hby at_44) rfl ?_
            show Steps p.tables e below (T5_4.setTop (mkF m 45 #[.val (.int p1), .val (.int p2), .val (.int p3), .val (.int p4), .val (.int nn), .val (.ref b5_2), .unset, .unset] [(.int (p2 &&& (2 : Int32)))])) _
            refine XS.ifNo X5_4.here hx rfl (hb hby at_45) rfl ((if0 _ _).trans (feq hc45_6).1) ?_
            show Steps p.tables e below (T5_4.setTop (mkF m 48 #[.val (.int p1), .val (.int p2), .val (.int p3), .val (.int p4), .val (.int nn), .val (.ref b5_2), .unset, .unset] [])) _
            refine XS.aload X5_4.here hx rfl (hb hby at_48) rfl rfl ?_
            show Steps p.tables e below (T5_4.setTop (mkF m 50 #[.val (.int p1), .val (.int p2), .val (.int p3), .val (.int p4), .val (.int nn), .val (.ref b5_2), .unset, .unset] [(.ref b5_2)])) _
            refine st5_6.trans ?_
            show Steps p.tables e below (T5_6.setTop (mkF m 53 #[.val (.int p1), .val (.int p2), .val (.int p3), .val (.int p4), .val (.int nn), .val (.ref b5_2), .unset, .unset] [(.int (own_rem (p3 &&& (2147483647 : Int32)) nn))])) _
            refine XS.pop X5_6.here hx rfl (hb hby at_53) rfl rfl ?_
            exact kt
          have Z6 : n0 ≤ T5_6.heap.size := Nat.le_trans Z5 K6_6.1
          exact ⟨_, _, _, _, _, X5_6, rfl, Z6, N5_6, ⟨Ex6_6, Fri6, Fqu6, Fhe6, Fsi6, ⟨cr5, own_ak Ar5 K6_6 (ninS (Ne.symm ne1) (ninS ne3 nin0)), Sr5.trans Sr, fun x hx => absurd hx (Nat.not_lt_zero x)⟩, ⟨cd6, Ad6, Sd6.trans (Sd5.trans Sd), fun x hx => absurd hx (Nat.not_lt_zero x)⟩⟩, fun target kt => st_4p _ (st_6p _ (kt))⟩
    · have hc21_7 : ¬ ((0 : Int32) < nn) := hp
      have st_7p : ∀ target, Steps p.tables e below (T6_2.setTop (mkF m 54 #[.val (.int p1), .val (.int p2), .val (.int p3), .val (.int p4), .val (.int nn), .val (.ref b5_2), .unset, .unset] [])) target → Steps p.tables e below (T6_2.setTop (mkF m 19 #[.val (.int p1), .val (.int p2), .val (.int p3), .val (.int p4), .val (.int nn), .val (.ref b5_2), .unset, .unset] [])) target := by
        intro target kt
        show Steps p.tables e below (T6_2.setTop (mkF m 19 #[.val (.int p1), .val (.int p2), .val (.int p3), .val (.int p4), .val (.int nn), .val (.ref b5_2), .unset, .unset] [])) _
        refine XS.iload X6_2.here hx rfl (hb hby at_19) rfl ?_
        show Steps p.tables e below (T6_2.setTop (mkF m 21 #[.val (.int p1), .val (.int p2), .val (.int p3), .val (.int p4), .val (.int nn), .val (.ref b5_2), .unset, .unset] [(.int nn)])) _
        refine XS.ifYes X6_2.here hx rfl (pc0 := 21) (pc' := 54) rfl (hb hby at_21) rfl ((if0 _ _).trans (flt hc21_7).2.2.2) (by decide) (by decide) ?_
        exact kt
      exact ⟨_, _, _, (.int 0), (.int 0), X6_2, rfl, Zc, N6_2, ⟨Ex, Fri, Fqu, Fhe, Fsi, ⟨cr, Ar, Sr, fun x hx => absurd hx (Nat.not_lt_zero x)⟩, ⟨cd, Ad, Sd, fun x hx => absurd hx (Nat.not_lt_zero x)⟩⟩, fun target kt => st_7p _ (kt)⟩
  have ExP := SP.1
  obtain ⟨cq5_8, kq5_8, q5a_8, q5b_8, q5c_8⟩ := isOf hZ eP ExP
  obtain ⟨_, _, ⟨T5_8, L5_8, k5_8, n5_8⟩, -, X5_8, ⟨Lc5_8, hQ5_8, l5_8, y5_8, z5_8⟩, st5_8⟩ := XP.virtualBack hx (y := (⟨"com/example/assignor/assignor/NodeQueue", "fillWithAll", "()V"⟩ : MethodName)) (z := (⟨"com/example/assignor/assignor/NodeQueue", "fillWithAll", "()V"⟩ : MethodName)) hown (mvT hZ (hw _ (List.mem_of_getElem? (i := 15) rfl))) (mvT hZ (hw _ (List.mem_of_getElem? (i := 16) rfl))) (notFace_of_selects (args := #[]) (mvT hZ (hw _ (List.mem_of_getElem? (i := 18) rfl)))) (mvT hZ (hw _ (List.mem_of_getElem? (i := 18) rfl))) (mvT hZ (hw _ (List.mem_of_getElem? (i := 17) rfl))) (by decide) (backOf (W := 0) (rm3 l Z a0 hw [] b5_2 r d nn _ hd sz hP' n0 ZP SP rfl hcap hnn ne1 ne2 ne3 g_b5_2 gr gd) hZ (hw _ (List.mem_of_getElem? (i := 19) rfl)) (hw _ (List.mem_of_getElem? (i := 2) rfl)) (by decide) (by decide)) q5a_8 q5c_8 (g := (mkF m 56 #[.val (.int p1), .val (.int p2), .val (.int p3), .val (.int p4), .val (.int nn), .val (.ref b5_2), .unset, .unset] [(.ref b5_2)])) rfl (by rw [hml]; rfl) (Steps.refl _) (argsL := []) (rest := []) (lenOf pd_1 rfl) rfl (by show 2 * 0 + _ ≤ _; exact Nat.le_of_eq rfl) (hb hby at_56) (fun _ _ => ⟨rfl, eP, (by decide : 0 + 1 + 2 ≤ _), (by decide : 0 + 4 + 8 ≤ _)⟩)
  dsimp only [Pt.U, Pt.locs, Pt.cells, Pt.slots] at X5_8 l5_8 y5_8 z5_8 st5_8 hQ5_8
  subst l5_8 y5_8 z5_8
  obtain ⟨rfl, N5q_8, ZF, SF⟩ := hQ5_8
  have N5_8 := Fr.app NP N5q_8
  have st_8p : ∀ target, Steps p.tables e below (T5_8.setTop (mkF m 59 #[.val (.int p1), .val (.int p2), .val (.int p3), .val (.int p4), .val (.int nn), .val (.ref b5_2), .unset, .unset] [])) target → Steps p.tables e below (TP.setTop (mkF m 54 #[.val (.int p1), .val (.int p2), .val (.int p3), .val (.int p4), .val (.int nn), .val (.ref b5_2), .unset, .unset] [])) target := by
    intro target kt
    show Steps p.tables e below (TP.setTop (mkF m 54 #[.val (.int p1), .val (.int p2), .val (.int p3), .val (.int p4), .val (.int nn), .val (.ref b5_2), .unset, .unset] [])) _
    refine XS.aload XP.here hx rfl (hb hby at_54) rfl rfl ?_
    show Steps p.tables e below (TP.setTop (mkF m 56 #[.val (.int p1), .val (.int p2), .val (.int p3), .val (.int p4), .val (.int nn), .val (.ref b5_2), .unset, .unset] [(.ref b5_2)])) _
    refine st5_8.trans ?_
    exact kt
  obtain ⟨ExF, FriF, FquF, FheF, FsiF, ⟨crF, ArF, SrF, HrF⟩, ⟨cdF, AdF, SdF, HdF⟩⟩ := SF
  skip
  rcases own_cases hn with rfl | rfl | rfl | rfl | rfl
  · have eN : (0 : Int32).toNatClampNeg = 0 := by decide
    have hc66_9 : (0 : Int32) = (0 : Int32) := (by decide)
    obtain ⟨cq5_9, kq5_9, q5a_9, q5b_9, q5c_9⟩ := isOf hZ (rfl : T5_8.heap = _) ExF
    obtain ⟨_, _, ⟨T5_9, L5_9, k5_9, n5_9⟩, -, X5_9, ⟨Lc5_9, hQ5_9, l5_9, y5_9, z5_9⟩, st5_9⟩ := X5_8.virtualBack hx (y := (⟨"com/example/assignor/assignor/NodeQueue", "isEmpty", "()Z"⟩ : MethodName)) (z := (⟨"com/example/assignor/assignor/NodeQueue", "isEmpty", "()Z"⟩ : MethodName)) hown (mvT hZ (hw _ (List.mem_of_getElem? (i := 24) rfl))) (mvT hZ (hw _ (List.mem_of_getElem? (i := 25) rfl))) (notFace_of_selects (args := #[]) (mvT hZ (hw _ (List.mem_of_getElem? (i := 27) rfl)))) (mvT hZ (hw _ (List.mem_of_getElem? (i := 27) rfl))) (mvT hZ (hw _ (List.mem_of_getElem? (i := 26) rfl))) (by decide) (backOf (W := 0) (rm4 l Z a0 hw [] b5_2 (0 : Int32) T5_8.heap n0 ZF FsiF) hZ (hw _ (List.mem_of_getElem? (i := 28) rfl)) (hw _ (List.mem_of_getElem? (i := 2) rfl)) (by decide) (by decide)) q5a_9 q5c_9 (g := (mkF m 61 #[.val (.int p1), .val (.int p2), .val (.int p3), .val (.int p4), .val (.int (0 : Int32)), .val (.ref b5_2), .unset, .unset] [(.ref b5_2)])) rfl (by rw [hml]; rfl) (Steps.refl _) (argsL := []) (rest := []) (lenOf pd_2 rfl) rfl (by show 2 * 0 + _ ≤ _; exact Nat.le_of_eq rfl) (hb hby at_61) (fun _ _ => ⟨rfl, (rfl : T5_8.heap = _), (by decide : 0 + 1 + 2 ≤ _), (by decide : 0 + 4 + 8 ≤ _)⟩)
    dsimp only [Pt.U, Pt.locs, Pt.cells, Pt.slots] at X5_9 l5_9 y5_9 z5_9 st5_9 hQ5_9
    subst l5_9 y5_9 z5_9
    obtain ⟨rfl, N5q_9, g4_9⟩ := hQ5_9
    have N5_9 := Fr.app N5_8 N5q_9
    have st_9p : ∀ target, Steps p.tables e below (T5_9.setTop (mkF m 84 #[.val (.int p1), .val (.int p2), .val (.int p3), .val (.int p4), .val (.int (0 : Int32)), .val (.ref b5_2), .val (.int (1 : Int32)), .unset] [])) target → Steps p.tables e below (T5_8.setTop (mkF m 59 #[.val (.int p1), .val (.int p2), .val (.int p3), .val (.int p4), .val (.int (0 : Int32)), .val (.ref b5_2), .unset, .unset] [])) target := by
      intro target kt
      show Steps p.tables e below (T5_8.setTop (mkF m 59 #[.val (.int p1), .val (.int p2), .val (.int p3), .val (.int p4), .val (.int (0 : Int32)), .val (.ref b5_2), .unset, .unset] [])) _
      refine XS.aload X5_8.here hx rfl (hb hby at_59) rfl rfl ?_
      show Steps p.tables e below (T5_8.setTop (mkF m 61 #[.val (.int p1), .val (.int p2), .val (.int p3), .val (.int p4), .val (.int (0 : Int32)), .val (.ref b5_2), .unset, .unset] [(.ref b5_2)])) _
      refine st5_9.trans ?_
      show Steps p.tables e below (T5_9.setTop (mkF m 64 #[.val (.int p1), .val (.int p2), .val (.int p3), .val (.int p4), .val (.int (0 : Int32)), .val (.ref b5_2), .unset, .unset] [(.int (own_emp (0 : Int32)))])) _
      refine XS.iload X5_9.here hx rfl (hb hby at_64) rfl ?_
      show Steps p.tables e below (T5_9.setTop (mkF m 66 #[.val (.int p1), .val (.int p2), .val (.int p3), .val (.int p4), .val (.int (0 : Int32)), .val (.ref b5_2), .unset, .unset] [(.int (0 : Int32)), (.int (own_emp (0 : Int32)))])) _
      refine XS.ifNo X5_9.here hx rfl (hb hby at_66) rfl ((if0 _ _).trans (teq hc66_9).2) ?_
      show Steps p.tables e below (T5_9.setTop (mkF m 69 #[.val (.int p1), .val (.int p2), .val (.int p3), .val (.int p4), .val (.int (0 : Int32)), .val (.ref b5_2), .unset, .unset] [(.int (own_emp (0 : Int32)))])) _
      refine XS.iconst X5_9.here hx rfl (hb hby at_69) ?_
      show Steps p.tables e below (T5_9.setTop (mkF m 70 #[.val (.int p1), .val (.int p2), .val (.int p3), .val (.int p4), .val (.int (0 : Int32)), .val (.ref b5_2), .unset, .unset] [(.int (1 : Int32)), (.int (own_emp (0 : Int32)))])) _
      refine XS.goto X5_9.here hx rfl (pc0 := 70) (pc' := 74) rfl (hb hby at_70) (by decide) (by decide) ?_
      show Steps p.tables e below (T5_9.setTop (mkF m 74 #[.val (.int p1), .val (.int p2), .val (.int p3), .val (.int p4), .val (.int (0 : Int32)), .val (.ref b5_2), .unset, .unset] [(.int (1 : Int32)), (.int (own_emp (0 : Int32)))])) _
      refine XS.icmpNo X5_9.here hx rfl (hb hby at_74) rfl (teq ((by decide) : (own_emp (0 : Int32)) = (1 : Int32))).2 ?_
      show Steps p.tables e below (T5_9.setTop (mkF m 77 #[.val (.int p1), .val (.int p2), .val (.int p3), .val (.int p4), .val (.int (0 : Int32)), .val (.ref b5_2), .unset, .unset] [])) _
      refine XS.iconst X5_9.here hx rfl (hb hby at_77) ?_
      show Steps p.tables e below (T5_9.setTop (mkF m 78 #[.val (.int p1), .val (.int p2), .val (.int p3), .val (.int p4), .val (.int (0 : Int32)), .val (.ref b5_2), .unset, .unset] [(.int (1 : Int32))])) _
      refine XS.goto X5_9.here hx rfl (pc0 := 78) (pc' := 82) rfl (hb hby at_78) (by decide) (by decide) ?_
      show Steps p.tables e below (T5_9.setTop (mkF m 82 #[.val (.int p1), .val (.int p2), .val (.int p3), .val (.int p4), .val (.int (0 : Int32)), .val (.ref b5_2), .unset, .unset] [(.int (1 : Int32))])) _
      refine XS.istore X5_9.here hx rfl (hb hby at_82) rfl (l' := #[.val (.int p1), .val (.int p2), .val (.int p3), .val (.int p4), .val (.int (0 : Int32)), .val (.ref b5_2), .val (.int (1 : Int32)), .unset]) rfl ?_
      exact kt
    have hc86_10 : ¬ ((0 : Int32) < (0 : Int32)) := (by decide)
    have st_10p : ∀ target, Steps p.tables e below (T5_9.setTop (mkF m 101 #[.val (.int p1), .val (.int p2), .val (.int p3), .val (.int p4), .val (.int (0 : Int32)), .val (.ref b5_2), .val (.int (1 : Int32)), .unset] [])) target → Steps p.tables e below (T5_9.setTop (mkF m 84 #[.val (.int p1), .val (.int p2), .val (.int p3), .val (.int p4), .val (.int (0 : Int32)), .val (.ref b5_2), .val (.int (1 : Int32)), .unset] [])) target := by
      intro target kt
      show Steps p.tables e below (T5_9.setTop (mkF m 84 #[.val (.int p1), .val (.int p2), .val (.int p3), .val (.int p4), .val (.int (0 : Int32)), .val (.ref b5_2), .val (.int (1 : Int32)), .unset] [])) _
      refine XS.iload X5_9.here hx rfl (hb hby at_84) rfl ?_
      show Steps p.tables e below (T5_9.setTop (mkF m 86 #[.val (.int p1), .val (.int p2), .val (.int p3), .val (.int p4), .val (.int (0 : Int32)), .val (.ref b5_2), .val (.int (1 : Int32)), .unset] [(.int (0 : Int32))])) _
      refine XS.ifYes X5_9.here hx rfl (pc0 := 86) (pc' := 101) rfl (hb hby at_86) rfl ((if0 _ _).trans (flt hc86_10).2.2.2) (by decide) (by decide) ?_
      exact kt
    have hc104_11 : (0 : Int32) < (1 : Int32) := (by decide)
    have st_11p : ∀ target, Steps p.tables e below (T5_9.setTop (mkF m 131 #[.val (.int p1), .val (.int p2), .val (.int p3), .val (.int p4), .val (.int (0 : Int32)), .val (.ref b5_2), .val (.int (1 : Int32)), .unset] [])) target → Steps p.tables e below (T5_9.setTop (mkF m 101 #[.val (.int p1), .val (.int p2), .val (.int p3), .val (.int p4), .val (.int (0 : Int32)), .val (.ref b5_2), .val (.int (1 : Int32)), .unset] [])) target := by
      intro target kt
      show Steps p.tables e below (T5_9.setTop (mkF m 101 #[.val (.int p1), .val (.int p2), .val (.int p3), .val (.int p4), .val (.int (0 : Int32)), .val (.ref b5_2), .val (.int (1 : Int32)), .unset] [])) _
      refine XS.iload X5_9.here hx rfl (hb hby at_101) rfl ?_
      show Steps p.tables e below (T5_9.setTop (mkF m 103 #[.val (.int p1), .val (.int p2), .val (.int p3), .val (.int p4), .val (.int (0 : Int32)), .val (.ref b5_2), .val (.int (1 : Int32)), .unset] [(.int (0 : Int32))])) _
      refine XS.iconst X5_9.here hx rfl (hb hby at_103) ?_
      show Steps p.tables e below (T5_9.setTop (mkF m 104 #[.val (.int p1), .val (.int p2), .val (.int p3), .val (.int p4), .val (.int (0 : Int32)), .val (.ref b5_2), .val (.int (1 : Int32)), .unset] [(.int (1 : Int32)), (.int (0 : Int32))])) _
      refine XS.icmpYes X5_9.here hx rfl (pc0 := 104) (pc' := 131) rfl (hb hby at_104) rfl (tlt hc104_11).1 (by decide) (by decide) ?_
      exact kt
    have hc134_12 : (0 : Int32) < (2 : Int32) := (by decide)
    have st_12p : ∀ target, Steps p.tables e below (T5_9.setTop (mkF m 162 #[.val (.int p1), .val (.int p2), .val (.int p3), .val (.int p4), .val (.int (0 : Int32)), .val (.ref b5_2), .val (.int (1 : Int32)), .unset] [])) target → Steps p.tables e below (T5_9.setTop (mkF m 131 #[.val (.int p1), .val (.int p2), .val (.int p3), .val (.int p4), .val (.int (0 : Int32)), .val (.ref b5_2), .val (.int (1 : Int32)), .unset] [])) target := by
      intro target kt
      show Steps p.tables e below (T5_9.setTop (mkF m 131 #[.val (.int p1), .val (.int p2), .val (.int p3), .val (.int p4), .val (.int (0 : Int32)), .val (.ref b5_2), .val (.int (1 : Int32)), .unset] [])) _
      refine XS.iload X5_9.here hx rfl (hb hby at_131) rfl ?_
      show Steps p.tables e below (T5_9.setTop (mkF m 133 #[.val (.int p1), .val (.int p2), .val (.int p3), .val (.int p4), .val (.int (0 : Int32)), .val (.ref b5_2), .val (.int (1 : Int32)), .unset] [(.int (0 : Int32))])) _
      refine XS.iconst X5_9.here hx rfl (hb hby at_133) ?_
      show Steps p.tables e below (T5_9.setTop (mkF m 134 #[.val (.int p1), .val (.int p2), .val (.int p3), .val (.int p4), .val (.int (0 : Int32)), .val (.ref b5_2), .val (.int (1 : Int32)), .unset] [(.int (2 : Int32)), (.int (0 : Int32))])) _
      refine XS.icmpYes X5_9.here hx rfl (pc0 := 134) (pc' := 162) rfl (hb hby at_134) rfl (tlt hc134_12).1 (by decide) (by decide) ?_
      exact kt
    have hc165_13 : (0 : Int32) < (3 : Int32) := (by decide)
    have st_13p : ∀ target, Steps p.tables e below (T5_9.setTop (mkF m 193 #[.val (.int p1), .val (.int p2), .val (.int p3), .val (.int p4), .val (.int (0 : Int32)), .val (.ref b5_2), .val (.int (1 : Int32)), .unset] [])) target → Steps p.tables e below (T5_9.setTop (mkF m 162 #[.val (.int p1), .val (.int p2), .val (.int p3), .val (.int p4), .val (.int (0 : Int32)), .val (.ref b5_2), .val (.int (1 : Int32)), .unset] [])) target := by
      intro target kt
      show Steps p.tables e below (T5_9.setTop (mkF m 162 #[.val (.int p1), .val (.int p2), .val (.int p3), .val (.int p4), .val (.int (0 : Int32)), .val (.ref b5_2), .val (.int (1 : Int32)), .unset] [])) _
      refine XS.iload X5_9.here hx rfl (hb hby at_162) rfl ?_
      show Steps p.tables e below (T5_9.setTop (mkF m 164 #[.val (.int p1), .val (.int p2), .val (.int p3), .val (.int p4), .val (.int (0 : Int32)), .val (.ref b5_2), .val (.int (1 : Int32)), .unset] [(.int (0 : Int32))])) _
      refine XS.iconst X5_9.here hx rfl (hb hby at_164) ?_
      show Steps p.tables e below (T5_9.setTop (mkF m 165 #[.val (.int p1), .val (.int p2), .val (.int p3), .val (.int p4), .val (.int (0 : Int32)), .val (.ref b5_2), .val (.int (1 : Int32)), .unset] [(.int (3 : Int32)), (.int (0 : Int32))])) _
      refine XS.icmpYes X5_9.here hx rfl (pc0 := 165) (pc' := 193) rfl (hb hby at_165) rfl (tlt hc165_13).1 (by decide) (by decide) ?_
      exact kt
    have hc196_14 : (0 : Int32) < (4 : Int32) := (by decide)
    have st_14p : ∀ target, Steps p.tables e below (T5_9.setTop (mkF m 224 #[.val (.int p1), .val (.int p2), .val (.int p3), .val (.int p4), .val (.int (0 : Int32)), .val (.ref b5_2), .val (.int (1 : Int32)), .unset] [])) target → Steps p.tables e below (T5_9.setTop (mkF m 193 #[.val (.int p1), .val (.int p2), .val (.int p3), .val (.int p4), .val (.int (0 : Int32)), .val (.ref b5_2), .val (.int (1 : Int32)), .unset] [])) target := by
      intro target kt
      show Steps p.tables e below (T5_9.setTop (mkF m 193 #[.val (.int p1), .val (.int p2), .val (.int p3), .val (.int p4), .val (.int (0 : Int32)), .val (.ref b5_2), .val (.int (1 : Int32)), .unset] [])) _
      refine XS.iload X5_9.here hx rfl (hb hby at_193) rfl ?_
      show Steps p.tables e below (T5_9.setTop (mkF m 195 #[.val (.int p1), .val (.int p2), .val (.int p3), .val (.int p4), .val (.int (0 : Int32)), .val (.ref b5_2), .val (.int (1 : Int32)), .unset] [(.int (0 : Int32))])) _
      refine XS.iconst X5_9.here hx rfl (hb hby at_195) ?_
      show Steps p.tables e below (T5_9.setTop (mkF m 196 #[.val (.int p1), .val (.int p2), .val (.int p3), .val (.int p4), .val (.int (0 : Int32)), .val (.ref b5_2), .val (.int (1 : Int32)), .unset] [(.int (4 : Int32)), (.int (0 : Int32))])) _
      refine XS.icmpYes X5_9.here hx rfl (pc0 := 196) (pc' := 224) rfl (hb hby at_196) rfl (tlt hc196_14).1 (by decide) (by decide) ?_
      exact kt
    have hc233_15 : ¬ ((1 : Int32) = (0 : Int32)) := (by decide)
    obtain ⟨cq5_15, kq5_15, q5a_15, q5b_15, q5c_15⟩ := isOf hZ g4_9 ExF
    obtain ⟨_, _, ⟨T5_15, L5_15, k5_15, n5_15⟩, -, X5_15, ⟨Lc5_15, hQ5_15, l5_15, y5_15, z5_15⟩, st5_15⟩ := X5_9.virtualBack hx (y := (⟨"com/example/assignor/assignor/NodeQueue", "isEmpty", "()Z"⟩ : MethodName)) (z := (⟨"com/example/assignor/assignor/NodeQueue", "isEmpty", "()Z"⟩ : MethodName)) hown (mvT hZ (hw _ (List.mem_of_getElem? (i := 24) rfl))) (mvT hZ (hw _ (List.mem_of_getElem? (i := 25) rfl))) (notFace_of_selects (args := #[]) (mvT hZ (hw _ (List.mem_of_getElem? (i := 27) rfl)))) (mvT hZ (hw _ (List.mem_of_getElem? (i := 27) rfl))) (mvT hZ (hw _ (List.mem_of_getElem? (i := 26) rfl))) (by decide) (backOf (W := 0) (rm4 l Z a0 hw [] b5_2 (0 : Int32) T5_8.heap n0 ZF FsiF) hZ (hw _ (List.mem_of_getElem? (i := 28) rfl)) (hw _ (List.mem_of_getElem? (i := 2) rfl)) (by decide) (by decide)) q5a_15 q5c_15 (g := (mkF m 226 #[.val (.int p1), .val (.int p2), .val (.int p3), .val (.int p4), .val (.int (0 : Int32)), .val (.ref b5_2), .val (.int (1 : Int32)), .unset] [(.ref b5_2)])) rfl (by rw [hml]; rfl) (Steps.refl _) (argsL := []) (rest := []) (lenOf pd_2 rfl) rfl (by show 2 * 0 + _ ≤ _; exact Nat.le_of_eq rfl) (hb hby at_226) (fun _ _ => ⟨rfl, g4_9, (by decide : 0 + 1 + 2 ≤ _), (by decide : 0 + 4 + 8 ≤ _)⟩)
    dsimp only [Pt.U, Pt.locs, Pt.cells, Pt.slots] at X5_15 l5_15 y5_15 z5_15 st5_15 hQ5_15
    subst l5_15 y5_15 z5_15
    obtain ⟨rfl, N5q_15, g4_15⟩ := hQ5_15
    have N5_15 := Fr.app N5_9 N5q_15
    have st_15p : ∀ target, Steps p.tables e below (T5_15.setTop (mkF m 246 #[.val (.int p1), .val (.int p2), .val (.int p3), .val (.int p4), .val (.int (0 : Int32)), .val (.ref b5_2), .val (.int (1 : Int32)), .val (.int (own_emp (0 : Int32)))] [(.int (1 : Int32))])) target → Steps p.tables e below (T5_9.setTop (mkF m 224 #[.val (.int p1), .val (.int p2), .val (.int p3), .val (.int p4), .val (.int (0 : Int32)), .val (.ref b5_2), .val (.int (1 : Int32)), .unset] [])) target := by
      intro target kt
      show Steps p.tables e below (T5_9.setTop (mkF m 224 #[.val (.int p1), .val (.int p2), .val (.int p3), .val (.int p4), .val (.int (0 : Int32)), .val (.ref b5_2), .val (.int (1 : Int32)), .unset] [])) _
      refine XS.aload X5_9.here hx rfl (hb hby at_224) rfl rfl ?_
      show Steps p.tables e below (T5_9.setTop (mkF m 226 #[.val (.int p1), .val (.int p2), .val (.int p3), .val (.int p4), .val (.int (0 : Int32)), .val (.ref b5_2), .val (.int (1 : Int32)), .unset] [(.ref b5_2)])) _
      refine st5_15.trans ?_
      show Steps p.tables e below (T5_15.setTop (mkF m 229 #[.val (.int p1), .val (.int p2), .val (.int p3), .val (.int p4), .val (.int (0 : Int32)), .val (.ref b5_2), .val (.int (1 : Int32)), .unset] [(.int (own_emp (0 : Int32)))])) _
      refine XS.istore X5_15.here hx rfl (hb hby at_229) rfl (l' := #[.val (.int p1), .val (.int p2), .val (.int p3), .val (.int p4), .val (.int (0 : Int32)), .val (.ref b5_2), .val (.int (1 : Int32)), .val (.int (own_emp (0 : Int32)))]) rfl ?_
      show Steps p.tables e below (T5_15.setTop (mkF m 231 #[.val (.int p1), .val (.int p2), .val (.int p3), .val (.int p4), .val (.int (0 : Int32)), .val (.ref b5_2), .val (.int (1 : Int32)), .val (.int (own_emp (0 : Int32)))] [])) _
      refine XS.iload X5_15.here hx rfl (hb hby at_231) rfl ?_
      show Steps p.tables e below (T5_15.setTop (mkF m 233 #[.val (.int p1), .val (.int p2), .val (.int p3), .val (.int p4), .val (.int (0 : Int32)), .val (.ref b5_2), .val (.int (1 : Int32)), .val (.int (own_emp (0 : Int32)))] [(.int (1 : Int32))])) _
      refine XS.ifNo X5_15.here hx rfl (hb hby at_233) rfl ((if0 _ _).trans (feq hc233_15).1) ?_
      show Steps p.tables e below (T5_15.setTop (mkF m 236 #[.val (.int p1), .val (.int p2), .val (.int p3), .val (.int p4), .val (.int (0 : Int32)), .val (.ref b5_2), .val (.int (1 : Int32)), .val (.int (own_emp (0 : Int32)))] [])) _
      refine XS.iload X5_15.here hx rfl (hb hby at_236) rfl ?_
      show Steps p.tables e below (T5_15.setTop (mkF m 238 #[.val (.int p1), .val (.int p2), .val (.int p3), .val (.int p4), .val (.int (0 : Int32)), .val (.ref b5_2), .val (.int (1 : Int32)), .val (.int (own_emp (0 : Int32)))] [(.int (own_emp (0 : Int32)))])) _
      refine XS.ifNo X5_15.here hx rfl (hb hby at_238) rfl ((if0 _ _).trans (feq ((by decide) : ¬ ((own_emp (0 : Int32)) = (0 : Int32)))).1) ?_
      show Steps p.tables e below (T5_15.setTop (mkF m 241 #[.val (.int p1), .val (.int p2), .val (.int p3), .val (.int p4), .val (.int (0 : Int32)), .val (.ref b5_2), .val (.int (1 : Int32)), .val (.int (own_emp (0 : Int32)))] [])) _
      refine XS.iconst X5_15.here hx rfl (hb hby at_241) ?_
      show Steps p.tables e below (T5_15.setTop (mkF m 242 #[.val (.int p1), .val (.int p2), .val (.int p3), .val (.int p4), .val (.int (0 : Int32)), .val (.ref b5_2), .val (.int (1 : Int32)), .val (.int (own_emp (0 : Int32)))] [(.int (1 : Int32))])) _
      refine XS.goto X5_15.here hx rfl (pc0 := 242) (pc' := 246) rfl (hb hby at_242) (by decide) (by decide) ?_
      exact kt
    obtain ⟨fs, hr, hrun, hended, hW, hsame⟩ := X5_15.leave (v := some (.int (1 : Int32))) (fun h => by rw [Bd.returns] at h; cases h)
    refine ⟨_, _, pre0 _ ?_, hrun, hended, _, _, rfl, ?_, ⟨_, rfl⟩, hW, hsame.mono (by decide) (by decide)⟩
    · show Steps p.tables e below (s₁.setTop (mkF m 0 #[.val (.int p1), .val (.int p2), .val (.int p3), .val (.int p4), .unset, .unset, .unset, .unset] [])) _
      refine st_1p _ ?_
      refine st_2p _ ?_
      refine stP _ ?_
      refine st_8p _ ?_
      refine st_9p _ ?_
      refine st_10p _ ?_
      refine st_11p _ ?_
      refine st_12p _ ?_
      refine st_13p _ ?_
      refine st_14p _ ?_
      refine st_15p _ ?_
      exact retN X5_15 hx (t := .boolean) Bd.returns (by simp) (hb hby at_246) hr
    · show Q0 Z p1 p2 p3 p4 h0 n0 _ T5_15.heap _
      exact ⟨rfl, N5_15⟩
  · have eN : (1 : Int32).toNatClampNeg = 1 := by decide
    have hc66_16 : ¬ ((1 : Int32) = (0 : Int32)) := (by decide)
    obtain ⟨cq5_16, kq5_16, q5a_16, q5b_16, q5c_16⟩ := isOf hZ (rfl : T5_8.heap = _) ExF
    obtain ⟨_, _, ⟨T5_16, L5_16, k5_16, n5_16⟩, -, X5_16, ⟨Lc5_16, hQ5_16, l5_16, y5_16, z5_16⟩, st5_16⟩ := X5_8.virtualBack hx (y := (⟨"com/example/assignor/assignor/NodeQueue", "isEmpty", "()Z"⟩ : MethodName)) (z := (⟨"com/example/assignor/assignor/NodeQueue", "isEmpty", "()Z"⟩ : MethodName)) hown (mvT hZ (hw _ (List.mem_of_getElem? (i := 24) rfl))) (mvT hZ (hw _ (List.mem_of_getElem? (i := 25) rfl))) (notFace_of_selects (args := #[]) (mvT hZ (hw _ (List.mem_of_getElem? (i := 27) rfl)))) (mvT hZ (hw _ (List.mem_of_getElem? (i := 27) rfl))) (mvT hZ (hw _ (List.mem_of_getElem? (i := 26) rfl))) (by decide) (backOf (W := 0) (rm4 l Z a0 hw [] b5_2 (1 : Int32) T5_8.heap n0 ZF FsiF) hZ (hw _ (List.mem_of_getElem? (i := 28) rfl)) (hw _ (List.mem_of_getElem? (i := 2) rfl)) (by decide) (by decide)) q5a_16 q5c_16 (g := (mkF m 61 #[.val (.int p1), .val (.int p2), .val (.int p3), .val (.int p4), .val (.int (1 : Int32)), .val (.ref b5_2), .unset, .unset] [(.ref b5_2)])) rfl (by rw [hml]; rfl) (Steps.refl _) (argsL := []) (rest := []) (lenOf pd_2 rfl) rfl (by show 2 * 0 + _ ≤ _; exact Nat.le_of_eq rfl) (hb hby at_61) (fun _ _ => ⟨rfl, (rfl : T5_8.heap = _), (by decide : 0 + 1 + 2 ≤ _), (by decide : 0 + 4 + 8 ≤ _)⟩)
    dsimp only [Pt.U, Pt.locs, Pt.cells, Pt.slots] at X5_16 l5_16 y5_16 z5_16 st5_16 hQ5_16
    subst l5_16 y5_16 z5_16
    obtain ⟨rfl, N5q_16, g4_16⟩ := hQ5_16
    have N5_16 := Fr.app N5_8 N5q_16
    have st_16p : ∀ target, Steps p.tables e below (T5_16.setTop (mkF m 84 #[.val (.int p1), .val (.int p2), .val (.int p3), .val (.int p4), .val (.int (1 : Int32)), .val (.ref b5_2), .val (.int (1 : Int32)), .unset] [])) target → Steps p.tables e below (T5_8.setTop (mkF m 59 #[.val (.int p1), .val (.int p2), .val (.int p3), .val (.int p4), .val (.int (1 : Int32)), .val (.ref b5_2), .unset, .unset] [])) target := by
      intro target kt
      show Steps p.tables e below (T5_8.setTop (mkF m 59 #[.val (.int p1), .val (.int p2), .val (.int p3), .val (.int p4), .val (.int (1 : Int32)), .val (.ref b5_2), .unset, .unset] [])) _
      refine XS.aload X5_8.here hx rfl (hb hby at_59) rfl rfl ?_
      show Steps p.tables e below (T5_8.setTop (mkF m 61 #[.val (.int p1), .val (.int p2), .val (.int p3), .val (.int p4), .val (.int (1 : Int32)), .val (.ref b5_2), .unset, .unset] [(.ref b5_2)])) _
      refine st5_16.trans ?_
      show Steps p.tables e below (T5_16.setTop (mkF m 64 #[.val (.int p1), .val (.int p2), .val (.int p3), .val (.int p4), .val (.int (1 : Int32)), .val (.ref b5_2), .unset, .unset] [(.int (own_emp (1 : Int32)))])) _
      refine XS.iload X5_16.here hx rfl (hb hby at_64) rfl ?_
      show Steps p.tables e below (T5_16.setTop (mkF m 66 #[.val (.int p1), .val (.int p2), .val (.int p3), .val (.int p4), .val (.int (1 : Int32)), .val (.ref b5_2), .unset, .unset] [(.int (1 : Int32)), (.int (own_emp (1 : Int32)))])) _
      refine XS.ifYes X5_16.here hx rfl (pc0 := 66) (pc' := 73) rfl (hb hby at_66) rfl ((if0 _ _).trans (feq hc66_16).2) (by decide) (by decide) ?_
      show Steps p.tables e below (T5_16.setTop (mkF m 73 #[.val (.int p1), .val (.int p2), .val (.int p3), .val (.int p4), .val (.int (1 : Int32)), .val (.ref b5_2), .unset, .unset] [(.int (own_emp (1 : Int32)))])) _
      refine XS.iconst X5_16.here hx rfl (hb hby at_73) ?_
      show Steps p.tables e below (T5_16.setTop (mkF m 74 #[.val (.int p1), .val (.int p2), .val (.int p3), .val (.int p4), .val (.int (1 : Int32)), .val (.ref b5_2), .unset, .unset] [(.int (0 : Int32)), (.int (own_emp (1 : Int32)))])) _
      refine XS.icmpNo X5_16.here hx rfl (hb hby at_74) rfl (teq ((by decide) : (own_emp (1 : Int32)) = (0 : Int32))).2 ?_
      show Steps p.tables e below (T5_16.setTop (mkF m 77 #[.val (.int p1), .val (.int p2), .val (.int p3), .val (.int p4), .val (.int (1 : Int32)), .val (.ref b5_2), .unset, .unset] [])) _
      refine XS.iconst X5_16.here hx rfl (hb hby at_77) ?_
      show Steps p.tables e below (T5_16.setTop (mkF m 78 #[.val (.int p1), .val (.int p2), .val (.int p3), .val (.int p4), .val (.int (1 : Int32)), .val (.ref b5_2), .unset, .unset] [(.int (1 : Int32))])) _
      refine XS.goto X5_16.here hx rfl (pc0 := 78) (pc' := 82) rfl (hb hby at_78) (by decide) (by decide) ?_
      show Steps p.tables e below (T5_16.setTop (mkF m 82 #[.val (.int p1), .val (.int p2), .val (.int p3), .val (.int p4), .val (.int (1 : Int32)), .val (.ref b5_2), .unset, .unset] [(.int (1 : Int32))])) _
      refine XS.istore X5_16.here hx rfl (hb hby at_82) rfl (l' := #[.val (.int p1), .val (.int p2), .val (.int p3), .val (.int p4), .val (.int (1 : Int32)), .val (.ref b5_2), .val (.int (1 : Int32)), .unset]) rfl ?_
      exact kt
    have hdd := own_rem_in p4 (y := (1 : Int32)) (by decide)
    have ddl : (own_rem (p4 &&& (2147483647 : Int32)) (1 : Int32)) < (1 : Int32) := by rw [Int32.lt_iff_toInt_lt]; exact hdd.2
    have hindd : ¬ ((own_rem (p4 &&& (2147483647 : Int32)) (1 : Int32)) < 0 ∨ cdF.slots.size ≤ (own_rem (p4 &&& (2147483647 : Int32)) (1 : Int32)).toNatClampNeg) := inb_of SdF ⟨own_nn hdd.1, ddl⟩
    have hc86_17 : (0 : Int32) < (1 : Int32) := (by decide)
    have hy97_17 : (1 : Int32) ≠ 0 := (by decide)
    obtain ⟨cq5_17, kq5_17, q5a_17, q5b_17, q5c_17⟩ := isOf hZ g4_16 ExF
    obtain ⟨_, _, ⟨T5_17, L5_17, k5_17, n5_17⟩, -, X5_17, ⟨Lc5_17, hQ5_17, l5_17, y5_17, z5_17⟩, st5_17⟩ := X5_16.virtualBack hx (y := (⟨"com/example/assignor/assignor/NodeQueue", "offer", "(I)V"⟩ : MethodName)) (z := (⟨"com/example/assignor/assignor/NodeQueue", "offer", "(I)V"⟩ : MethodName)) hown (mvT hZ (hw _ (List.mem_of_getElem? (i := 30) rfl))) (mvT hZ (hw _ (List.mem_of_getElem? (i := 31) rfl))) (notFace_of_selects (args := #[]) (mvT hZ (hw _ (List.mem_of_getElem? (i := 33) rfl)))) (mvT hZ (hw _ (List.mem_of_getElem? (i := 33) rfl))) (mvT hZ (hw _ (List.mem_of_getElem? (i := 32) rfl))) (by decide) (backOf (W := 0) (rm5n l Z a0 hw [] b5_2 (own_rem (p4 &&& (2147483647 : Int32)) (1 : Int32)) d (1 : Int32) cdF T5_8.heap n0 ZF FquF AdF hindd (HdF _ (by rw [← SdF]; exact Nat.lt_of_not_le fun u => hindd (Or.inr u))) (by decide)) hZ (hw _ (List.mem_of_getElem? (i := 34) rfl)) (hw _ (List.mem_of_getElem? (i := 2) rfl)) (by decide) (by decide)) q5a_17 q5c_17 (g := (mkF m 98 #[.val (.int p1), .val (.int p2), .val (.int p3), .val (.int p4), .val (.int (1 : Int32)), .val (.ref b5_2), .val (.int (1 : Int32)), .unset] [(.int (own_rem (p4 &&& (2147483647 : Int32)) (1 : Int32))), (.ref b5_2)])) rfl (by rw [hml]; rfl) (Steps.refl _) (argsL := [(.int (own_rem (p4 &&& (2147483647 : Int32)) (1 : Int32)))]) (rest := []) (lenOf pd_0 rfl) rfl (by show 2 * 0 + _ ≤ _; exact Nat.le_of_eq rfl) (hb hby at_98) (fun _ _ => ⟨rfl, g4_16, (by decide : 0 + 1 + 2 ≤ _), (by decide : 0 + 4 + 8 ≤ _)⟩)
    dsimp only [Pt.U, Pt.locs, Pt.cells, Pt.slots] at X5_17 l5_17 y5_17 z5_17 st5_17 hQ5_17
    subst l5_17 y5_17 z5_17
    obtain ⟨rfl, N5q_17, g5_17⟩ := hQ5_17
    have N5_17 := Fr.app N5_16 N5q_17
    have st_17p : ∀ target, Steps p.tables e below (T5_17.setTop (mkF m 101 #[.val (.int p1), .val (.int p2), .val (.int p3), .val (.int p4), .val (.int (1 : Int32)), .val (.ref b5_2), .val (.int (1 : Int32)), .unset] [])) target → Steps p.tables e below (T5_16.setTop (mkF m 84 #[.val (.int p1), .val (.int p2), .val (.int p3), .val (.int p4), .val (.int (1 : Int32)), .val (.ref b5_2), .val (.int (1 : Int32)), .unset] [])) target := by
      intro target kt
      show Steps p.tables e below (T5_16.setTop (mkF m 84 #[.val (.int p1), .val (.int p2), .val (.int p3), .val (.int p4), .val (.int (1 : Int32)), .val (.ref b5_2), .val (.int (1 : Int32)), .unset] [])) _
      refine XS.iload X5_16.here hx rfl (hb hby at_84) rfl ?_
      show Steps p.tables e below (T5_16.setTop (mkF m 86 #[.val (.int p1), .val (.int p2), .val (.int p3), .val (.int p4), .val (.int (1 : Int32)), .val (.ref b5_2), .val (.int (1 : Int32)), .unset] [(.int (1 : Int32))])) _
      refine XS.ifNo X5_16.here hx rfl (hb hby at_86) rfl ((if0 _ _).trans (tlt hc86_17).2.2.2) ?_
      show Steps p.tables e below (T5_16.setTop (mkF m 89 #[.val (.int p1), .val (.int p2), .val (.int p3), .val (.int p4), .val (.int (1 : Int32)), .val (.ref b5_2), .val (.int (1 : Int32)), .unset] [])) _
      refine XS.aload X5_16.here hx rfl (hb hby at_89) rfl rfl ?_
      show Steps p.tables e below (T5_16.setTop (mkF m 91 #[.val (.int p1), .val (.int p2), .val (.int p3), .val (.int p4), .val (.int (1 : Int32)), .val (.ref b5_2), .val (.int (1 : Int32)), .unset] [(.ref b5_2)])) _
      refine XS.iloadN X5_16.here hx rfl (hb hby at_91) rfl ?_
      show Steps p.tables e below (T5_16.setTop (mkF m 92 #[.val (.int p1), .val (.int p2), .val (.int p3), .val (.int p4), .val (.int (1 : Int32)), .val (.ref b5_2), .val (.int (1 : Int32)), .unset] [(.int p4), (.ref b5_2)])) _
      refine X5_16.ldcInt hx hown (mvT hZ (hw _ (List.mem_of_getElem? (i := 29) rfl))) (g := (mkF m 92 #[.val (.int p1), .val (.int p2), .val (.int p3), .val (.int p4), .val (.int (1 : Int32)), .val (.ref b5_2), .val (.int (1 : Int32)), .unset] [(.int p4), (.ref b5_2)])) rfl (hb hby at_92) _ ?_
      show Steps p.tables e below (T5_16.setTop (mkF m 94 #[.val (.int p1), .val (.int p2), .val (.int p3), .val (.int p4), .val (.int (1 : Int32)), .val (.ref b5_2), .val (.int (1 : Int32)), .unset] [(.int (2147483647 : Int32)), (.int p4), (.ref b5_2)])) _
      refine XS.iand X5_16.here hx rfl (hb hby at_94) rfl ?_
      show Steps p.tables e below (T5_16.setTop (mkF m 95 #[.val (.int p1), .val (.int p2), .val (.int p3), .val (.int p4), .val (.int (1 : Int32)), .val (.ref b5_2), .val (.int (1 : Int32)), .unset] [(.int (p4 &&& (2147483647 : Int32))), (.ref b5_2)])) _
      refine XS.iload X5_16.here hx rfl (hb hby at_95) rfl ?_
      show Steps p.tables e below (T5_16.setTop (mkF m 97 #[.val (.int p1), .val (.int p2), .val (.int p3), .val (.int p4), .val (.int (1 : Int32)), .val (.ref b5_2), .val (.int (1 : Int32)), .unset] [(.int (1 : Int32)), (.int (p4 &&& (2147483647 : Int32))), (.ref b5_2)])) _
      refine XS.irem X5_16.here hx rfl (hb hby at_97) rfl hy97_17 ?_
      show Steps p.tables e below (T5_16.setTop (mkF m 98 #[.val (.int p1), .val (.int p2), .val (.int p3), .val (.int p4), .val (.int (1 : Int32)), .val (.ref b5_2), .val (.int (1 : Int32)), .unset] [(.int (own_rem (p4 &&& (2147483647 : Int32)) (1 : Int32))), (.ref b5_2)])) _
      refine st5_17.trans ?_
      exact kt
    have hi0 : ¬ ((0 : Int32) < 0 ∨ crF.slots.size ≤ ((0 : Int32)).toNatClampNeg) := inb_of SrF ⟨by decide, by decide⟩
    have ha0 : crF.slots[((0 : Int32)).toNatClampNeg]? = some (.int (0 : Int32)) := by rw [show ((0 : Int32)).toNatClampNeg = 0 from by decide]; exact HrF 0 (by rw [eN]; decide)
    have hd0 : ¬ ((0 : Int32) < 0 ∨ cdF.slots.size ≤ ((0 : Int32)).toNatClampNeg) := inb_of SdF ⟨by decide, by decide⟩
    have hc104_18 : ¬ ((1 : Int32) < (1 : Int32)) := (by decide)
    have hc116_18 : ¬ ((1 : Int32) = (0 : Int32)) := (by decide)
    obtain ⟨cq5_18, kq5_18, q5a_18, q5b_18, q5c_18⟩ := isOf hZ g5_17 ExF
    obtain ⟨_, _, ⟨T5_18, L5_18, k5_18, n5_18⟩, -, X5_18, ⟨Lc5_18, hQ5_18, l5_18, y5_18, z5_18⟩, st5_18⟩ := X5_17.virtualBack hx (y := (⟨"com/example/assignor/assignor/NodeQueue", "poll", "()I"⟩ : MethodName)) (z := (⟨"com/example/assignor/assignor/NodeQueue", "poll", "()I"⟩ : MethodName)) hown (mvT hZ (hw _ (List.mem_of_getElem? (i := 35) rfl))) (mvT hZ (hw _ (List.mem_of_getElem? (i := 36) rfl))) (notFace_of_selects (args := #[]) (mvT hZ (hw _ (List.mem_of_getElem? (i := 38) rfl)))) (mvT hZ (hw _ (List.mem_of_getElem? (i := 38) rfl))) (mvT hZ (hw _ (List.mem_of_getElem? (i := 37) rfl))) (by decide) (backOf (W := 0) (rm6 l Z a0 hw [] b5_2 r (0 : Int32) (0 : Int32) crF (1 : Int32) (1 : Int32) d cdF T5_8.heap n0 ZF FriF FheF ArF hi0 ha0 SrF (by decide) (by decide) ExF g_b5_2 FsiF FquF AdF hd0 gd ne2) hZ (hw _ (List.mem_of_getElem? (i := 39) rfl)) (hw _ (List.mem_of_getElem? (i := 2) rfl)) (by decide) (by decide)) q5a_18 q5c_18 (g := (mkF m 109 #[.val (.int p1), .val (.int p2), .val (.int p3), .val (.int p4), .val (.int (1 : Int32)), .val (.ref b5_2), .val (.int (1 : Int32)), .unset] [(.ref b5_2)])) rfl (by rw [hml]; rfl) (Steps.refl _) (argsL := []) (rest := []) (lenOf pd_3 rfl) rfl (by show 2 * 0 + _ ≤ _; exact Nat.le_of_eq rfl) (hb hby at_109) (fun _ _ => ⟨rfl, g5_17, (by decide : 0 + 1 + 2 ≤ _), (by decide : 0 + 4 + 8 ≤ _)⟩)
    dsimp only [Pt.U, Pt.locs, Pt.cells, Pt.slots] at X5_18 l5_18 y5_18 z5_18 st5_18 hQ5_18
    subst l5_18 y5_18 z5_18
    obtain ⟨rfl, N5q_18, K6_18, Ex6_18, Fri6_18, Fqu6_18, Fhe6_18, Fsi6_18, ⟨cd6_18, Ad6_18, Sd6_18⟩⟩ := hQ5_18
    have N5_18 := Fr.app N5_17 N5q_18
    have st_18p : ∀ target, Steps p.tables e below (T5_18.setTop (mkF m 131 #[.val (.int p1), .val (.int p2), .val (.int p3), .val (.int p4), .val (.int (1 : Int32)), .val (.ref b5_2), .val (.int (1 : Int32)), .val (.int (0 : Int32))] [])) target → Steps p.tables e below (T5_17.setTop (mkF m 101 #[.val (.int p1), .val (.int p2), .val (.int p3), .val (.int p4), .val (.int (1 : Int32)), .val (.ref b5_2), .val (.int (1 : Int32)), .unset] [])) target := by
      intro target kt
      show Steps p.tables e below (T5_17.setTop (mkF m 101 #[.val (.int p1), .val (.int p2), .val (.int p3), .val (.int p4), .val (.int (1 : Int32)), .val (.ref b5_2), .val (.int (1 : Int32)), .unset] [])) _
      refine XS.iload X5_17.here hx rfl (hb hby at_101) rfl ?_
      show Steps p.tables e below (T5_17.setTop (mkF m 103 #[.val (.int p1), .val (.int p2), .val (.int p3), .val (.int p4), .val (.int (1 : Int32)), .val (.ref b5_2), .val (.int (1 : Int32)), .unset] [(.int (1 : Int32))])) _
      refine XS.iconst X5_17.here hx rfl (hb hby at_103) ?_
      show Steps p.tables e below (T5_17.setTop (mkF m 104 #[.val (.int p1), .val (.int p2), .val (.int p3), .val (.int p4), .val (.int (1 : Int32)), .val (.ref b5_2), .val (.int (1 : Int32)), .unset] [(.int (1 : Int32)), (.int (1 : Int32))])) _
      refine XS.icmpNo X5_17.here hx rfl (hb hby at_104) rfl (flt hc104_18).1 ?_
      show Steps p.tables e below (T5_17.setTop (mkF m 107 #[.val (.int p1), .val (.int p2), .val (.int p3), .val (.int p4), .val (.int (1 : Int32)), .val (.ref b5_2), .val (.int (1 : Int32)), .unset] [])) _
      refine XS.aload X5_17.here hx rfl (hb hby at_107) rfl rfl ?_
      show Steps p.tables e below (T5_17.setTop (mkF m 109 #[.val (.int p1), .val (.int p2), .val (.int p3), .val (.int p4), .val (.int (1 : Int32)), .val (.ref b5_2), .val (.int (1 : Int32)), .unset] [(.ref b5_2)])) _
      refine st5_18.trans ?_
      show Steps p.tables e below (T5_18.setTop (mkF m 112 #[.val (.int p1), .val (.int p2), .val (.int p3), .val (.int p4), .val (.int (1 : Int32)), .val (.ref b5_2), .val (.int (1 : Int32)), .unset] [(.int (0 : Int32))])) _
      refine XS.istore X5_18.here hx rfl (hb hby at_112) rfl (l' := #[.val (.int p1), .val (.int p2), .val (.int p3), .val (.int p4), .val (.int (1 : Int32)), .val (.ref b5_2), .val (.int (1 : Int32)), .val (.int (0 : Int32))]) rfl ?_
      show Steps p.tables e below (T5_18.setTop (mkF m 114 #[.val (.int p1), .val (.int p2), .val (.int p3), .val (.int p4), .val (.int (1 : Int32)), .val (.ref b5_2), .val (.int (1 : Int32)), .val (.int (0 : Int32))] [])) _
      refine XS.iload X5_18.here hx rfl (hb hby at_114) rfl ?_
      show Steps p.tables e below (T5_18.setTop (mkF m 116 #[.val (.int p1), .val (.int p2), .val (.int p3), .val (.int p4), .val (.int (1 : Int32)), .val (.ref b5_2), .val (.int (1 : Int32)), .val (.int (0 : Int32))] [(.int (1 : Int32))])) _
      refine XS.ifNo X5_18.here hx rfl (hb hby at_116) rfl ((if0 _ _).trans (feq hc116_18).1) ?_
      show Steps p.tables e below (T5_18.setTop (mkF m 119 #[.val (.int p1), .val (.int p2), .val (.int p3), .val (.int p4), .val (.int (1 : Int32)), .val (.ref b5_2), .val (.int (1 : Int32)), .val (.int (0 : Int32))] [])) _
      refine XS.iload X5_18.here hx rfl (hb hby at_119) rfl ?_
      show Steps p.tables e below (T5_18.setTop (mkF m 121 #[.val (.int p1), .val (.int p2), .val (.int p3), .val (.int p4), .val (.int (1 : Int32)), .val (.ref b5_2), .val (.int (1 : Int32)), .val (.int (0 : Int32))] [(.int (0 : Int32))])) _
      refine XS.ifNo X5_18.here hx rfl (hb hby at_121) rfl ((if0 _ _).trans (teq ((by decide) : (0 : Int32) = (0 : Int32))).2) ?_
      show Steps p.tables e below (T5_18.setTop (mkF m 124 #[.val (.int p1), .val (.int p2), .val (.int p3), .val (.int p4), .val (.int (1 : Int32)), .val (.ref b5_2), .val (.int (1 : Int32)), .val (.int (0 : Int32))] [])) _
      refine XS.iconst X5_18.here hx rfl (hb hby at_124) ?_
      show Steps p.tables e below (T5_18.setTop (mkF m 125 #[.val (.int p1), .val (.int p2), .val (.int p3), .val (.int p4), .val (.int (1 : Int32)), .val (.ref b5_2), .val (.int (1 : Int32)), .val (.int (0 : Int32))] [(.int (1 : Int32))])) _
      refine XS.goto X5_18.here hx rfl (pc0 := 125) (pc' := 129) rfl (hb hby at_125) (by decide) (by decide) ?_
      show Steps p.tables e below (T5_18.setTop (mkF m 129 #[.val (.int p1), .val (.int p2), .val (.int p3), .val (.int p4), .val (.int (1 : Int32)), .val (.ref b5_2), .val (.int (1 : Int32)), .val (.int (0 : Int32))] [(.int (1 : Int32))])) _
      refine XS.istore X5_18.here hx rfl (hb hby at_129) rfl (l' := #[.val (.int p1), .val (.int p2), .val (.int p3), .val (.int p4), .val (.int (1 : Int32)), .val (.ref b5_2), .val (.int (1 : Int32)), .val (.int (0 : Int32))]) rfl ?_
      exact kt
    rw [show own_rem ((0 : Int32) + (1 : Int32)) (1 : Int32) = (0 : Int32) from by decide] at Fhe6_18
    rw [show ((1 : Int32) - (1 : Int32)) = (0 : Int32) from by decide] at Fsi6_18
    have Z6_18 : n0 ≤ T5_18.heap.size := Nat.le_trans ZF K6_18.1
    have ar6_18 := own_ak ArF K6_18 (ninS (Ne.symm ne1) (ninS ne3 nin0))
    have sd6_18 := Sd6_18.trans SdF
    have hc134_19 : (1 : Int32) < (2 : Int32) := (by decide)
    have st_19p : ∀ target, Steps p.tables e below (T5_18.setTop (mkF m 162 #[.val (.int p1), .val (.int p2), .val (.int p3), .val (.int p4), .val (.int (1 : Int32)), .val (.ref b5_2), .val (.int (1 : Int32)), .val (.int (0 : Int32))] [])) target → Steps p.tables e below (T5_18.setTop (mkF m 131 #[.val (.int p1), .val (.int p2), .val (.int p3), .val (.int p4), .val (.int (1 : Int32)), .val (.ref b5_2), .val (.int (1 : Int32)), .val (.int (0 : Int32))] [])) target := by
      intro target kt
      show Steps p.tables e below (T5_18.setTop (mkF m 131 #[.val (.int p1), .val (.int p2), .val (.int p3), .val (.int p4), .val (.int (1 : Int32)), .val (.ref b5_2), .val (.int (1 : Int32)), .val (.int (0 : Int32))] [])) _
      refine XS.iload X5_18.here hx rfl (hb hby at_131) rfl ?_
      show Steps p.tables e below (T5_18.setTop (mkF m 133 #[.val (.int p1), .val (.int p2), .val (.int p3), .val (.int p4), .val (.int (1 : Int32)), .val (.ref b5_2), .val (.int (1 : Int32)), .val (.int (0 : Int32))] [(.int (1 : Int32))])) _
      refine XS.iconst X5_18.here hx rfl (hb hby at_133) ?_
      show Steps p.tables e below (T5_18.setTop (mkF m 134 #[.val (.int p1), .val (.int p2), .val (.int p3), .val (.int p4), .val (.int (1 : Int32)), .val (.ref b5_2), .val (.int (1 : Int32)), .val (.int (0 : Int32))] [(.int (2 : Int32)), (.int (1 : Int32))])) _
      refine XS.icmpYes X5_18.here hx rfl (pc0 := 134) (pc' := 162) rfl (hb hby at_134) rfl (tlt hc134_19).1 (by decide) (by decide) ?_
      exact kt
    have hc165_20 : (1 : Int32) < (3 : Int32) := (by decide)
    have st_20p : ∀ target, Steps p.tables e below (T5_18.setTop (mkF m 193 #[.val (.int p1), .val (.int p2), .val (.int p3), .val (.int p4), .val (.int (1 : Int32)), .val (.ref b5_2), .val (.int (1 : Int32)), .val (.int (0 : Int32))] [])) target → Steps p.tables e below (T5_18.setTop (mkF m 162 #[.val (.int p1), .val (.int p2), .val (.int p3), .val (.int p4), .val (.int (1 : Int32)), .val (.ref b5_2), .val (.int (1 : Int32)), .val (.int (0 : Int32))] [])) target := by
      intro target kt
      show Steps p.tables e below (T5_18.setTop (mkF m 162 #[.val (.int p1), .val (.int p2), .val (.int p3), .val (.int p4), .val (.int (1 : Int32)), .val (.ref b5_2), .val (.int (1 : Int32)), .val (.int (0 : Int32))] [])) _
      refine XS.iload X5_18.here hx rfl (hb hby at_162) rfl ?_
      show Steps p.tables e below (T5_18.setTop (mkF m 164 #[.val (.int p1), .val (.int p2), .val (.int p3), .val (.int p4), .val (.int (1 : Int32)), .val (.ref b5_2), .val (.int (1 : Int32)), .val (.int (0 : Int32))] [(.int (1 : Int32))])) _
      refine XS.iconst X5_18.here hx rfl (hb hby at_164) ?_
      show Steps p.tables e below (T5_18.setTop (mkF m 165 #[.val (.int p1), .val (.int p2), .val (.int p3), .val (.int p4), .val (.int (1 : Int32)), .val (.ref b5_2), .val (.int (1 : Int32)), .val (.int (0 : Int32))] [(.int (3 : Int32)), (.int (1 : Int32))])) _
      refine XS.icmpYes X5_18.here hx rfl (pc0 := 165) (pc' := 193) rfl (hb hby at_165) rfl (tlt hc165_20).1 (by decide) (by decide) ?_
      exact kt
    have hc196_21 : (1 : Int32) < (4 : Int32) := (by decide)
    have st_21p : ∀ target, Steps p.tables e below (T5_18.setTop (mkF m 224 #[.val (.int p1), .val (.int p2), .val (.int p3), .val (.int p4), .val (.int (1 : Int32)), .val (.ref b5_2), .val (.int (1 : Int32)), .val (.int (0 : Int32))] [])) target → Steps p.tables e below (T5_18.setTop (mkF m 193 #[.val (.int p1), .val (.int p2), .val (.int p3), .val (.int p4), .val (.int (1 : Int32)), .val (.ref b5_2), .val (.int (1 : Int32)), .val (.int (0 : Int32))] [])) target := by
      intro target kt
      show Steps p.tables e below (T5_18.setTop (mkF m 193 #[.val (.int p1), .val (.int p2), .val (.int p3), .val (.int p4), .val (.int (1 : Int32)), .val (.ref b5_2), .val (.int (1 : Int32)), .val (.int (0 : Int32))] [])) _
      refine XS.iload X5_18.here hx rfl (hb hby at_193) rfl ?_
      show Steps p.tables e below (T5_18.setTop (mkF m 195 #[.val (.int p1), .val (.int p2), .val (.int p3), .val (.int p4), .val (.int (1 : Int32)), .val (.ref b5_2), .val (.int (1 : Int32)), .val (.int (0 : Int32))] [(.int (1 : Int32))])) _
      refine XS.iconst X5_18.here hx rfl (hb hby at_195) ?_
      show Steps p.tables e below (T5_18.setTop (mkF m 196 #[.val (.int p1), .val (.int p2), .val (.int p3), .val (.int p4), .val (.int (1 : Int32)), .val (.ref b5_2), .val (.int (1 : Int32)), .val (.int (0 : Int32))] [(.int (4 : Int32)), (.int (1 : Int32))])) _
      refine XS.icmpYes X5_18.here hx rfl (pc0 := 196) (pc' := 224) rfl (hb hby at_196) rfl (tlt hc196_21).1 (by decide) (by decide) ?_
      exact kt
    have hc233_22 : ¬ ((1 : Int32) = (0 : Int32)) := (by decide)
    obtain ⟨cq5_22, kq5_22, q5a_22, q5b_22, q5c_22⟩ := isOf hZ (rfl : T5_18.heap = _) Ex6_18
    obtain ⟨_, _, ⟨T5_22, L5_22, k5_22, n5_22⟩, -, X5_22, ⟨Lc5_22, hQ5_22, l5_22, y5_22, z5_22⟩, st5_22⟩ := X5_18.virtualBack hx (y := (⟨"com/example/assignor/assignor/NodeQueue", "isEmpty", "()Z"⟩ : MethodName)) (z := (⟨"com/example/assignor/assignor/NodeQueue", "isEmpty", "()Z"⟩ : MethodName)) hown (mvT hZ (hw _ (List.mem_of_getElem? (i := 24) rfl))) (mvT hZ (hw _ (List.mem_of_getElem? (i := 25) rfl))) (notFace_of_selects (args := #[]) (mvT hZ (hw _ (List.mem_of_getElem? (i := 27) rfl)))) (mvT hZ (hw _ (List.mem_of_getElem? (i := 27) rfl))) (mvT hZ (hw _ (List.mem_of_getElem? (i := 26) rfl))) (by decide) (backOf (W := 0) (rm4 l Z a0 hw [] b5_2 (0 : Int32) T5_18.heap n0 Z6_18 Fsi6_18) hZ (hw _ (List.mem_of_getElem? (i := 28) rfl)) (hw _ (List.mem_of_getElem? (i := 2) rfl)) (by decide) (by decide)) q5a_22 q5c_22 (g := (mkF m 226 #[.val (.int p1), .val (.int p2), .val (.int p3), .val (.int p4), .val (.int (1 : Int32)), .val (.ref b5_2), .val (.int (1 : Int32)), .val (.int (0 : Int32))] [(.ref b5_2)])) rfl (by rw [hml]; rfl) (Steps.refl _) (argsL := []) (rest := []) (lenOf pd_2 rfl) rfl (by show 2 * 0 + _ ≤ _; exact Nat.le_of_eq rfl) (hb hby at_226) (fun _ _ => ⟨rfl, (rfl : T5_18.heap = _), (by decide : 0 + 1 + 2 ≤ _), (by decide : 0 + 4 + 8 ≤ _)⟩)
    dsimp only [Pt.U, Pt.locs, Pt.cells, Pt.slots] at X5_22 l5_22 y5_22 z5_22 st5_22 hQ5_22
    subst l5_22 y5_22 z5_22
    obtain ⟨rfl, N5q_22, g4_22⟩ := hQ5_22
    have N5_22 := Fr.app N5_18 N5q_22
    have st_22p : ∀ target, Steps p.tables e below (T5_22.setTop (mkF m 246 #[.val (.int p1), .val (.int p2), .val (.int p3), .val (.int p4), .val (.int (1 : Int32)), .val (.ref b5_2), .val (.int (1 : Int32)), .val (.int (own_emp (0 : Int32)))] [(.int (1 : Int32))])) target → Steps p.tables e below (T5_18.setTop (mkF m 224 #[.val (.int p1), .val (.int p2), .val (.int p3), .val (.int p4), .val (.int (1 : Int32)), .val (.ref b5_2), .val (.int (1 : Int32)), .val (.int (0 : Int32))] [])) target := by
      intro target kt
      show Steps p.tables e below (T5_18.setTop (mkF m 224 #[.val (.int p1), .val (.int p2), .val (.int p3), .val (.int p4), .val (.int (1 : Int32)), .val (.ref b5_2), .val (.int (1 : Int32)), .val (.int (0 : Int32))] [])) _
      refine XS.aload X5_18.here hx rfl (hb hby at_224) rfl rfl ?_
      show Steps p.tables e below (T5_18.setTop (mkF m 226 #[.val (.int p1), .val (.int p2), .val (.int p3), .val (.int p4), .val (.int (1 : Int32)), .val (.ref b5_2), .val (.int (1 : Int32)), .val (.int (0 : Int32))] [(.ref b5_2)])) _
      refine st5_22.trans ?_
      show Steps p.tables e below (T5_22.setTop (mkF m 229 #[.val (.int p1), .val (.int p2), .val (.int p3), .val (.int p4), .val (.int (1 : Int32)), .val (.ref b5_2), .val (.int (1 : Int32)), .val (.int (0 : Int32))] [(.int (own_emp (0 : Int32)))])) _
      refine XS.istore X5_22.here hx rfl (hb hby at_229) rfl (l' := #[.val (.int p1), .val (.int p2), .val (.int p3), .val (.int p4), .val (.int (1 : Int32)), .val (.ref b5_2), .val (.int (1 : Int32)), .val (.int (own_emp (0 : Int32)))]) rfl ?_
      show Steps p.tables e below (T5_22.setTop (mkF m 231 #[.val (.int p1), .val (.int p2), .val (.int p3), .val (.int p4), .val (.int (1 : Int32)), .val (.ref b5_2), .val (.int (1 : Int32)), .val (.int (own_emp (0 : Int32)))] [])) _
      refine XS.iload X5_22.here hx rfl (hb hby at_231) rfl ?_
      show Steps p.tables e below (T5_22.setTop (mkF m 233 #[.val (.int p1), .val (.int p2), .val (.int p3), .val (.int p4), .val (.int (1 : Int32)), .val (.ref b5_2), .val (.int (1 : Int32)), .val (.int (own_emp (0 : Int32)))] [(.int (1 : Int32))])) _
      refine XS.ifNo X5_22.here hx rfl (hb hby at_233) rfl ((if0 _ _).trans (feq hc233_22).1) ?_
      show Steps p.tables e below (T5_22.setTop (mkF m 236 #[.val (.int p1), .val (.int p2), .val (.int p3), .val (.int p4), .val (.int (1 : Int32)), .val (.ref b5_2), .val (.int (1 : Int32)), .val (.int (own_emp (0 : Int32)))] [])) _
      refine XS.iload X5_22.here hx rfl (hb hby at_236) rfl ?_
      show Steps p.tables e below (T5_22.setTop (mkF m 238 #[.val (.int p1), .val (.int p2), .val (.int p3), .val (.int p4), .val (.int (1 : Int32)), .val (.ref b5_2), .val (.int (1 : Int32)), .val (.int (own_emp (0 : Int32)))] [(.int (own_emp (0 : Int32)))])) _
      refine XS.ifNo X5_22.here hx rfl (hb hby at_238) rfl ((if0 _ _).trans (feq ((by decide) : ¬ ((own_emp (0 : Int32)) = (0 : Int32)))).1) ?_
      show Steps p.tables e below (T5_22.setTop (mkF m 241 #[.val (.int p1), .val (.int p2), .val (.int p3), .val (.int p4), .val (.int (1 : Int32)), .val (.ref b5_2), .val (.int (1 : Int32)), .val (.int (own_emp (0 : Int32)))] [])) _
      refine XS.iconst X5_22.here hx rfl (hb hby at_241) ?_
      show Steps p.tables e below (T5_22.setTop (mkF m 242 #[.val (.int p1), .val (.int p2), .val (.int p3), .val (.int p4), .val (.int (1 : Int32)), .val (.ref b5_2), .val (.int (1 : Int32)), .val (.int (own_emp (0 : Int32)))] [(.int (1 : Int32))])) _
      refine XS.goto X5_22.here hx rfl (pc0 := 242) (pc' := 246) rfl (hb hby at_242) (by decide) (by decide) ?_
      exact kt
    obtain ⟨fs, hr, hrun, hended, hW, hsame⟩ := X5_22.leave (v := some (.int (1 : Int32))) (fun h => by rw [Bd.returns] at h; cases h)
    refine ⟨_, _, pre0 _ ?_, hrun, hended, _, _, rfl, ?_, ⟨_, rfl⟩, hW, hsame.mono (by decide) (by decide)⟩
    · show Steps p.tables e below (s₁.setTop (mkF m 0 #[.val (.int p1), .val (.int p2), .val (.int p3), .val (.int p4), .unset, .unset, .unset, .unset] [])) _
      refine st_1p _ ?_
      refine st_2p _ ?_
      refine stP _ ?_
      refine st_8p _ ?_
      refine st_16p _ ?_
      refine st_17p _ ?_
      refine st_18p _ ?_
      refine st_19p _ ?_
      refine st_20p _ ?_
      refine st_21p _ ?_
      refine st_22p _ ?_
      exact retN X5_22 hx (t := .boolean) Bd.returns (by simp) (hb hby at_246) hr
    · show Q0 Z p1 p2 p3 p4 h0 n0 _ T5_22.heap _
      exact ⟨rfl, N5_22⟩
  · have eN : (2 : Int32).toNatClampNeg = 2 := by decide
    have hc66_23 : ¬ ((2 : Int32) = (0 : Int32)) := (by decide)
    obtain ⟨cq5_23, kq5_23, q5a_23, q5b_23, q5c_23⟩ := isOf hZ (rfl : T5_8.heap = _) ExF
    obtain ⟨_, _, ⟨T5_23, L5_23, k5_23, n5_23⟩, -, X5_23, ⟨Lc5_23, hQ5_23, l5_23, y5_23, z5_23⟩, st5_23⟩ := X5_8.virtualBack hx (y := (⟨"com/example/assignor/assignor/NodeQueue", "isEmpty", "()Z"⟩ : MethodName)) (z := (⟨"com/example/assignor/assignor/NodeQueue", "isEmpty", "()Z"⟩ : MethodName)) hown (mvT hZ (hw _ (List.mem_of_getElem? (i := 24) rfl))) (mvT hZ (hw _ (List.mem_of_getElem? (i := 25) rfl))) (notFace_of_selects (args := #[]) (mvT hZ (hw _ (List.mem_of_getElem? (i := 27) rfl)))) (mvT hZ (hw _ (List.mem_of_getElem? (i := 27) rfl))) (mvT hZ (hw _ (List.mem_of_getElem? (i := 26) rfl))) (by decide) (backOf (W := 0) (rm4 l Z a0 hw [] b5_2 (2 : Int32) T5_8.heap n0 ZF FsiF) hZ (hw _ (List.mem_of_getElem? (i := 28) rfl)) (hw _ (List.mem_of_getElem? (i := 2) rfl)) (by decide) (by decide)) q5a_23 q5c_23 (g := (mkF m 61 #[.val (.int p1), .val (.int p2), .val (.int p3), .val (.int p4), .val (.int (2 : Int32)), .val (.ref b5_2), .unset, .unset] [(.ref b5_2)])) rfl (by rw [hml]; rfl) (Steps.refl _) (argsL := []) (rest := []) (lenOf pd_2 rfl) rfl (by show 2 * 0 + _ ≤ _; exact Nat.le_of_eq rfl) (hb hby at_61) (fun _ _ => ⟨rfl, (rfl : T5_8.heap = _), (by decide : 0 + 1 + 2 ≤ _), (by decide : 0 + 4 + 8 ≤ _)⟩)
    dsimp only [Pt.U, Pt.locs, Pt.cells, Pt.slots] at X5_23 l5_23 y5_23 z5_23 st5_23 hQ5_23
    subst l5_23 y5_23 z5_23
    obtain ⟨rfl, N5q_23, g4_23⟩ := hQ5_23
    have N5_23 := Fr.app N5_8 N5q_23
    have st_23p : ∀ target, Steps p.tables e below (T5_23.setTop (mkF m 84 #[.val (.int p1), .val (.int p2), .val (.int p3), .val (.int p4), .val (.int (2 : Int32)), .val (.ref b5_2), .val (.int (1 : Int32)), .unset] [])) target → Steps p.tables e below (T5_8.setTop (mkF m 59 #[.val (.int p1), .val (.int p2), .val (.int p3), .val (.int p4), .val (.int (2 : Int32)), .val (.ref b5_2), .unset, .unset] [])) target := by
      intro target kt
      show Steps p.tables e below (T5_8.setTop (mkF m 59 #[.val (.int p1), .val (.int p2), .val (.int p3), .val (.int p4), .val (.int (2 : Int32)), .val (.ref b5_2), .unset, .unset] [])) _
      refine XS.aload X5_8.here hx rfl (hb hby at_59) rfl rfl ?_
      show Steps p.tables e below (T5_8.setTop (mkF m 61 #[.val (.int p1), .val (.int p2), .val (.int p3), .val (.int p4), .val (.int (2 : Int32)), .val (.ref b5_2), .unset, .unset] [(.ref b5_2)])) _
      refine st5_23.trans ?_
      show Steps p.tables e below (T5_23.setTop (mkF m 64 #[.val (.int p1), .val (.int p2), .val (.int p3), .val (.int p4), .val (.int (2 : Int32)), .val (.ref b5_2), .unset, .unset] [(.int (own_emp (2 : Int32)))])) _
      refine XS.iload X5_23.here hx rfl (hb hby at_64) rfl ?_
      show Steps p.tables e below (T5_23.setTop (mkF m 66 #[.val (.int p1), .val (.int p2), .val (.int p3), .val (.int p4), .val (.int (2 : Int32)), .val (.ref b5_2), .unset, .unset] [(.int (2 : Int32)), (.int (own_emp (2 : Int32)))])) _
      refine XS.ifYes X5_23.here hx rfl (pc0 := 66) (pc' := 73) rfl (hb hby at_66) rfl ((if0 _ _).trans (feq hc66_23).2) (by decide) (by decide) ?_
      show Steps p.tables e below (T5_23.setTop (mkF m 73 #[.val (.int p1), .val (.int p2), .val (.int p3), .val (.int p4), .val (.int (2 : Int32)), .val (.ref b5_2), .unset, .unset] [(.int (own_emp (2 : Int32)))])) _
      refine XS.iconst X5_23.here hx rfl (hb hby at_73) ?_
      show Steps p.tables e below (T5_23.setTop (mkF m 74 #[.val (.int p1), .val (.int p2), .val (.int p3), .val (.int p4), .val (.int (2 : Int32)), .val (.ref b5_2), .unset, .unset] [(.int (0 : Int32)), (.int (own_emp (2 : Int32)))])) _
      refine XS.icmpNo X5_23.here hx rfl (hb hby at_74) rfl (teq ((by decide) : (own_emp (2 : Int32)) = (0 : Int32))).2 ?_
      show Steps p.tables e below (T5_23.setTop (mkF m 77 #[.val (.int p1), .val (.int p2), .val (.int p3), .val (.int p4), .val (.int (2 : Int32)), .val (.ref b5_2), .unset, .unset] [])) _
      refine XS.iconst X5_23.here hx rfl (hb hby at_77) ?_
      show Steps p.tables e below (T5_23.setTop (mkF m 78 #[.val (.int p1), .val (.int p2), .val (.int p3), .val (.int p4), .val (.int (2 : Int32)), .val (.ref b5_2), .unset, .unset] [(.int (1 : Int32))])) _
      refine XS.goto X5_23.here hx rfl (pc0 := 78) (pc' := 82) rfl (hb hby at_78) (by decide) (by decide) ?_
      show Steps p.tables e below (T5_23.setTop (mkF m 82 #[.val (.int p1), .val (.int p2), .val (.int p3), .val (.int p4), .val (.int (2 : Int32)), .val (.ref b5_2), .unset, .unset] [(.int (1 : Int32))])) _
      refine XS.istore X5_23.here hx rfl (hb hby at_82) rfl (l' := #[.val (.int p1), .val (.int p2), .val (.int p3), .val (.int p4), .val (.int (2 : Int32)), .val (.ref b5_2), .val (.int (1 : Int32)), .unset]) rfl ?_
      exact kt
    have hdd := own_rem_in p4 (y := (2 : Int32)) (by decide)
    have ddl : (own_rem (p4 &&& (2147483647 : Int32)) (2 : Int32)) < (2 : Int32) := by rw [Int32.lt_iff_toInt_lt]; exact hdd.2
    have hindd : ¬ ((own_rem (p4 &&& (2147483647 : Int32)) (2 : Int32)) < 0 ∨ cdF.slots.size ≤ (own_rem (p4 &&& (2147483647 : Int32)) (2 : Int32)).toNatClampNeg) := inb_of SdF ⟨own_nn hdd.1, ddl⟩
    have hc86_24 : (0 : Int32) < (2 : Int32) := (by decide)
    have hy97_24 : (2 : Int32) ≠ 0 := (by decide)
    obtain ⟨cq5_24, kq5_24, q5a_24, q5b_24, q5c_24⟩ := isOf hZ g4_23 ExF
    obtain ⟨_, _, ⟨T5_24, L5_24, k5_24, n5_24⟩, -, X5_24, ⟨Lc5_24, hQ5_24, l5_24, y5_24, z5_24⟩, st5_24⟩ := X5_23.virtualBack hx (y := (⟨"com/example/assignor/assignor/NodeQueue", "offer", "(I)V"⟩ : MethodName)) (z := (⟨"com/example/assignor/assignor/NodeQueue", "offer", "(I)V"⟩ : MethodName)) hown (mvT hZ (hw _ (List.mem_of_getElem? (i := 30) rfl))) (mvT hZ (hw _ (List.mem_of_getElem? (i := 31) rfl))) (notFace_of_selects (args := #[]) (mvT hZ (hw _ (List.mem_of_getElem? (i := 33) rfl)))) (mvT hZ (hw _ (List.mem_of_getElem? (i := 33) rfl))) (mvT hZ (hw _ (List.mem_of_getElem? (i := 32) rfl))) (by decide) (backOf (W := 0) (rm5n l Z a0 hw [] b5_2 (own_rem (p4 &&& (2147483647 : Int32)) (2 : Int32)) d (1 : Int32) cdF T5_8.heap n0 ZF FquF AdF hindd (HdF _ (by rw [← SdF]; exact Nat.lt_of_not_le fun u => hindd (Or.inr u))) (by decide)) hZ (hw _ (List.mem_of_getElem? (i := 34) rfl)) (hw _ (List.mem_of_getElem? (i := 2) rfl)) (by decide) (by decide)) q5a_24 q5c_24 (g := (mkF m 98 #[.val (.int p1), .val (.int p2), .val (.int p3), .val (.int p4), .val (.int (2 : Int32)), .val (.ref b5_2), .val (.int (1 : Int32)), .unset] [(.int (own_rem (p4 &&& (2147483647 : Int32)) (2 : Int32))), (.ref b5_2)])) rfl (by rw [hml]; rfl) (Steps.refl _) (argsL := [(.int (own_rem (p4 &&& (2147483647 : Int32)) (2 : Int32)))]) (rest := []) (lenOf pd_0 rfl) rfl (by show 2 * 0 + _ ≤ _; exact Nat.le_of_eq rfl) (hb hby at_98) (fun _ _ => ⟨rfl, g4_23, (by decide : 0 + 1 + 2 ≤ _), (by decide : 0 + 4 + 8 ≤ _)⟩)
    dsimp only [Pt.U, Pt.locs, Pt.cells, Pt.slots] at X5_24 l5_24 y5_24 z5_24 st5_24 hQ5_24
    subst l5_24 y5_24 z5_24
    obtain ⟨rfl, N5q_24, g5_24⟩ := hQ5_24
    have N5_24 := Fr.app N5_23 N5q_24
    have st_24p : ∀ target, Steps p.tables e below (T5_24.setTop (mkF m 101 #[.val (.int p1), .val (.int p2), .val (.int p3), .val (.int p4), .val (.int (2 : Int32)), .val (.ref b5_2), .val (.int (1 : Int32)), .unset] [])) target → Steps p.tables e below (T5_23.setTop (mkF m 84 #[.val (.int p1), .val (.int p2), .val (.int p3), .val (.int p4), .val (.int (2 : Int32)), .val (.ref b5_2), .val (.int (1 : Int32)), .unset] [])) target := by
      intro target kt
      show Steps p.tables e below (T5_23.setTop (mkF m 84 #[.val (.int p1), .val (.int p2), .val (.int p3), .val (.int p4), .val (.int (2 : Int32)), .val (.ref b5_2), .val (.int (1 : Int32)), .unset] [])) _
      refine XS.iload X5_23.here hx rfl (hb hby at_84) rfl ?_
      show Steps p.tables e below (T5_23.setTop (mkF m 86 #[.val (.int p1), .val (.int p2), .val (.int p3), .val (.int p4), .val (.int (2 : Int32)), .val (.ref b5_2), .val (.int (1 : Int32)), .unset] [(.int (2 : Int32))])) _
      refine XS.ifNo X5_23.here hx rfl (hb hby at_86) rfl ((if0 _ _).trans (tlt hc86_24).2.2.2) ?_
      show Steps p.tables e below (T5_23.setTop (mkF m 89 #[.val (.int p1), .val (.int p2), .val (.int p3), .val (.int p4), .val (.int (2 : Int32)), .val (.ref b5_2), .val (.int (1 : Int32)), .unset] [])) _
      refine XS.aload X5_23.here hx rfl (hb hby at_89) rfl rfl ?_
      show Steps p.tables e below (T5_23.setTop (mkF m 91 #[.val (.int p1), .val (.int p2), .val (.int p3), .val (.int p4), .val (.int (2 : Int32)), .val (.ref b5_2), .val (.int (1 : Int32)), .unset] [(.ref b5_2)])) _
      refine XS.iloadN X5_23.here hx rfl (hb hby at_91) rfl ?_
      show Steps p.tables e below (T5_23.setTop (mkF m 92 #[.val (.int p1), .val (.int p2), .val (.int p3), .val (.int p4), .val (.int (2 : Int32)), .val (.ref b5_2), .val (.int (1 : Int32)), .unset] [(.int p4), (.ref b5_2)])) _
      refine X5_23.ldcInt hx hown (mvT hZ (hw _ (List.mem_of_getElem? (i := 29) rfl))) (g := (mkF m 92 #[.val (.int p1), .val (.int p2), .val (.int p3), .val (.int p4), .val (.int (2 : Int32)), .val (.ref b5_2), .val (.int (1 : Int32)), .unset] [(.int p4), (.ref b5_2)])) rfl (hb hby at_92) _ ?_
      show Steps p.tables e below (T5_23.setTop (mkF m 94 #[.val (.int p1), .val (.int p2), .val (.int p3), .val (.int p4), .val (.int (2 : Int32)), .val (.ref b5_2), .val (.int (1 : Int32)), .unset] [(.int (2147483647 : Int32)), (.int p4), (.ref b5_2)])) _
      refine XS.iand X5_23.here hx rfl (hb hby at_94) rfl ?_
      show Steps p.tables e below (T5_23.setTop (mkF m 95 #[.val (.int p1), .val (.int p2), .val (.int p3), .val (.int p4), .val (.int (2 : Int32)), .val (.ref b5_2), .val (.int (1 : Int32)), .unset] [(.int (p4 &&& (2147483647 : Int32))), (.ref b5_2)])) _
      refine XS.iload X5_23.here hx rfl (hb hby at_95) rfl ?_
      show Steps p.tables e below (T5_23.setTop (mkF m 97 #[.val (.int p1), .val (.int p2), .val (.int p3), .val (.int p4), .val (.int (2 : Int32)), .val (.ref b5_2), .val (.int (1 : Int32)), .unset] [(.int (2 : Int32)), (.int (p4 &&& (2147483647 : Int32))), (.ref b5_2)])) _
      refine XS.irem X5_23.here hx rfl (hb hby at_97) rfl hy97_24 ?_
      show Steps p.tables e below (T5_23.setTop (mkF m 98 #[.val (.int p1), .val (.int p2), .val (.int p3), .val (.int p4), .val (.int (2 : Int32)), .val (.ref b5_2), .val (.int (1 : Int32)), .unset] [(.int (own_rem (p4 &&& (2147483647 : Int32)) (2 : Int32))), (.ref b5_2)])) _
      refine st5_24.trans ?_
      exact kt
    have hi0 : ¬ ((0 : Int32) < 0 ∨ crF.slots.size ≤ ((0 : Int32)).toNatClampNeg) := inb_of SrF ⟨by decide, by decide⟩
    have ha0 : crF.slots[((0 : Int32)).toNatClampNeg]? = some (.int (0 : Int32)) := by rw [show ((0 : Int32)).toNatClampNeg = 0 from by decide]; exact HrF 0 (by rw [eN]; decide)
    have hd0 : ¬ ((0 : Int32) < 0 ∨ cdF.slots.size ≤ ((0 : Int32)).toNatClampNeg) := inb_of SdF ⟨by decide, by decide⟩
    have hc104_25 : ¬ ((2 : Int32) < (1 : Int32)) := (by decide)
    have hc116_25 : ¬ ((1 : Int32) = (0 : Int32)) := (by decide)
    obtain ⟨cq5_25, kq5_25, q5a_25, q5b_25, q5c_25⟩ := isOf hZ g5_24 ExF
    obtain ⟨_, _, ⟨T5_25, L5_25, k5_25, n5_25⟩, -, X5_25, ⟨Lc5_25, hQ5_25, l5_25, y5_25, z5_25⟩, st5_25⟩ := X5_24.virtualBack hx (y := (⟨"com/example/assignor/assignor/NodeQueue", "poll", "()I"⟩ : MethodName)) (z := (⟨"com/example/assignor/assignor/NodeQueue", "poll", "()I"⟩ : MethodName)) hown (mvT hZ (hw _ (List.mem_of_getElem? (i := 35) rfl))) (mvT hZ (hw _ (List.mem_of_getElem? (i := 36) rfl))) (notFace_of_selects (args := #[]) (mvT hZ (hw _ (List.mem_of_getElem? (i := 38) rfl)))) (mvT hZ (hw _ (List.mem_of_getElem? (i := 38) rfl))) (mvT hZ (hw _ (List.mem_of_getElem? (i := 37) rfl))) (by decide) (backOf (W := 0) (rm6 l Z a0 hw [] b5_2 r (0 : Int32) (0 : Int32) crF (2 : Int32) (2 : Int32) d cdF T5_8.heap n0 ZF FriF FheF ArF hi0 ha0 SrF (by decide) (by decide) ExF g_b5_2 FsiF FquF AdF hd0 gd ne2) hZ (hw _ (List.mem_of_getElem? (i := 39) rfl)) (hw _ (List.mem_of_getElem? (i := 2) rfl)) (by decide) (by decide)) q5a_25 q5c_25 (g := (mkF m 109 #[.val (.int p1), .val (.int p2), .val (.int p3), .val (.int p4), .val (.int (2 : Int32)), .val (.ref b5_2), .val (.int (1 : Int32)), .unset] [(.ref b5_2)])) rfl (by rw [hml]; rfl) (Steps.refl _) (argsL := []) (rest := []) (lenOf pd_3 rfl) rfl (by show 2 * 0 + _ ≤ _; exact Nat.le_of_eq rfl) (hb hby at_109) (fun _ _ => ⟨rfl, g5_24, (by decide : 0 + 1 + 2 ≤ _), (by decide : 0 + 4 + 8 ≤ _)⟩)
    dsimp only [Pt.U, Pt.locs, Pt.cells, Pt.slots] at X5_25 l5_25 y5_25 z5_25 st5_25 hQ5_25
    subst l5_25 y5_25 z5_25
    obtain ⟨rfl, N5q_25, K6_25, Ex6_25, Fri6_25, Fqu6_25, Fhe6_25, Fsi6_25, ⟨cd6_25, Ad6_25, Sd6_25⟩⟩ := hQ5_25
    have N5_25 := Fr.app N5_24 N5q_25
    have st_25p : ∀ target, Steps p.tables e below (T5_25.setTop (mkF m 131 #[.val (.int p1), .val (.int p2), .val (.int p3), .val (.int p4), .val (.int (2 : Int32)), .val (.ref b5_2), .val (.int (1 : Int32)), .val (.int (0 : Int32))] [])) target → Steps p.tables e below (T5_24.setTop (mkF m 101 #[.val (.int p1), .val (.int p2), .val (.int p3), .val (.int p4), .val (.int (2 : Int32)), .val (.ref b5_2), .val (.int (1 : Int32)), .unset] [])) target := by
      intro target kt
      show Steps p.tables e below (T5_24.setTop (mkF m 101 #[.val (.int p1), .val (.int p2), .val (.int p3), .val (.int p4), .val (.int (2 : Int32)), .val (.ref b5_2), .val (.int (1 : Int32)), .unset] [])) _
      refine XS.iload X5_24.here hx rfl (hb hby at_101) rfl ?_
      show Steps p.tables e below (T5_24.setTop (mkF m 103 #[.val (.int p1), .val (.int p2), .val (.int p3), .val (.int p4), .val (.int (2 : Int32)), .val (.ref b5_2), .val (.int (1 : Int32)), .unset] [(.int (2 : Int32))])) _
      refine XS.iconst X5_24.here hx rfl (hb hby at_103) ?_
      show Steps p.tables e below (T5_24.setTop (mkF m 104 #[.val (.int p1), .val (.int p2), .val (.int p3), .val (.int p4), .val (.int (2 : Int32)), .val (.ref b5_2), .val (.int (1 : Int32)), .unset] [(.int (1 : Int32)), (.int (2 : Int32))])) _
      refine XS.icmpNo X5_24.here hx rfl (hb hby at_104) rfl (flt hc104_25).1 ?_
      show Steps p.tables e below (T5_24.setTop (mkF m 107 #[.val (.int p1), .val (.int p2), .val (.int p3), .val (.int p4), .val (.int (2 : Int32)), .val (.ref b5_2), .val (.int (1 : Int32)), .unset] [])) _
      refine XS.aload X5_24.here hx rfl (hb hby at_107) rfl rfl ?_
      show Steps p.tables e below (T5_24.setTop (mkF m 109 #[.val (.int p1), .val (.int p2), .val (.int p3), .val (.int p4), .val (.int (2 : Int32)), .val (.ref b5_2), .val (.int (1 : Int32)), .unset] [(.ref b5_2)])) _
      refine st5_25.trans ?_
      show Steps p.tables e below (T5_25.setTop (mkF m 112 #[.val (.int p1), .val (.int p2), .val (.int p3), .val (.int p4), .val (.int (2 : Int32)), .val (.ref b5_2), .val (.int (1 : Int32)), .unset] [(.int (0 : Int32))])) _
      refine XS.istore X5_25.here hx rfl (hb hby at_112) rfl (l' := #[.val (.int p1), .val (.int p2), .val (.int p3), .val (.int p4), .val (.int (2 : Int32)), .val (.ref b5_2), .val (.int (1 : Int32)), .val (.int (0 : Int32))]) rfl ?_
      show Steps p.tables e below (T5_25.setTop (mkF m 114 #[.val (.int p1), .val (.int p2), .val (.int p3), .val (.int p4), .val (.int (2 : Int32)), .val (.ref b5_2), .val (.int (1 : Int32)), .val (.int (0 : Int32))] [])) _
      refine XS.iload X5_25.here hx rfl (hb hby at_114) rfl ?_
      show Steps p.tables e below (T5_25.setTop (mkF m 116 #[.val (.int p1), .val (.int p2), .val (.int p3), .val (.int p4), .val (.int (2 : Int32)), .val (.ref b5_2), .val (.int (1 : Int32)), .val (.int (0 : Int32))] [(.int (1 : Int32))])) _
      refine XS.ifNo X5_25.here hx rfl (hb hby at_116) rfl ((if0 _ _).trans (feq hc116_25).1) ?_
      show Steps p.tables e below (T5_25.setTop (mkF m 119 #[.val (.int p1), .val (.int p2), .val (.int p3), .val (.int p4), .val (.int (2 : Int32)), .val (.ref b5_2), .val (.int (1 : Int32)), .val (.int (0 : Int32))] [])) _
      refine XS.iload X5_25.here hx rfl (hb hby at_119) rfl ?_
      show Steps p.tables e below (T5_25.setTop (mkF m 121 #[.val (.int p1), .val (.int p2), .val (.int p3), .val (.int p4), .val (.int (2 : Int32)), .val (.ref b5_2), .val (.int (1 : Int32)), .val (.int (0 : Int32))] [(.int (0 : Int32))])) _
      refine XS.ifNo X5_25.here hx rfl (hb hby at_121) rfl ((if0 _ _).trans (teq ((by decide) : (0 : Int32) = (0 : Int32))).2) ?_
      show Steps p.tables e below (T5_25.setTop (mkF m 124 #[.val (.int p1), .val (.int p2), .val (.int p3), .val (.int p4), .val (.int (2 : Int32)), .val (.ref b5_2), .val (.int (1 : Int32)), .val (.int (0 : Int32))] [])) _
      refine XS.iconst X5_25.here hx rfl (hb hby at_124) ?_
      show Steps p.tables e below (T5_25.setTop (mkF m 125 #[.val (.int p1), .val (.int p2), .val (.int p3), .val (.int p4), .val (.int (2 : Int32)), .val (.ref b5_2), .val (.int (1 : Int32)), .val (.int (0 : Int32))] [(.int (1 : Int32))])) _
      refine XS.goto X5_25.here hx rfl (pc0 := 125) (pc' := 129) rfl (hb hby at_125) (by decide) (by decide) ?_
      show Steps p.tables e below (T5_25.setTop (mkF m 129 #[.val (.int p1), .val (.int p2), .val (.int p3), .val (.int p4), .val (.int (2 : Int32)), .val (.ref b5_2), .val (.int (1 : Int32)), .val (.int (0 : Int32))] [(.int (1 : Int32))])) _
      refine XS.istore X5_25.here hx rfl (hb hby at_129) rfl (l' := #[.val (.int p1), .val (.int p2), .val (.int p3), .val (.int p4), .val (.int (2 : Int32)), .val (.ref b5_2), .val (.int (1 : Int32)), .val (.int (0 : Int32))]) rfl ?_
      exact kt
    rw [show own_rem ((0 : Int32) + (1 : Int32)) (2 : Int32) = (1 : Int32) from by decide] at Fhe6_25
    rw [show ((2 : Int32) - (1 : Int32)) = (1 : Int32) from by decide] at Fsi6_25
    have Z6_25 : n0 ≤ T5_25.heap.size := Nat.le_trans ZF K6_25.1
    have ar6_25 := own_ak ArF K6_25 (ninS (Ne.symm ne1) (ninS ne3 nin0))
    have sd6_25 := Sd6_25.trans SdF
    have hi1 : ¬ ((1 : Int32) < 0 ∨ crF.slots.size ≤ ((1 : Int32)).toNatClampNeg) := inb_of SrF ⟨by decide, by decide⟩
    have ha1 : crF.slots[((1 : Int32)).toNatClampNeg]? = some (.int (1 : Int32)) := by rw [show ((1 : Int32)).toNatClampNeg = 1 from by decide]; exact HrF 1 (by rw [eN]; decide)
    have hd1 : ¬ ((1 : Int32) < 0 ∨ cd6_25.slots.size ≤ ((1 : Int32)).toNatClampNeg) := inb_of sd6_25 ⟨by decide, by decide⟩
    have hc134_26 : ¬ ((2 : Int32) < (2 : Int32)) := (by decide)
    have hc146_26 : ¬ ((1 : Int32) = (0 : Int32)) := (by decide)
    obtain ⟨cq5_26, kq5_26, q5a_26, q5b_26, q5c_26⟩ := isOf hZ (rfl : T5_25.heap = _) Ex6_25
    obtain ⟨_, _, ⟨T5_26, L5_26, k5_26, n5_26⟩, -, X5_26, ⟨Lc5_26, hQ5_26, l5_26, y5_26, z5_26⟩, st5_26⟩ := X5_25.virtualBack hx (y := (⟨"com/example/assignor/assignor/NodeQueue", "poll", "()I"⟩ : MethodName)) (z := (⟨"com/example/assignor/assignor/NodeQueue", "poll", "()I"⟩ : MethodName)) hown (mvT hZ (hw _ (List.mem_of_getElem? (i := 35) rfl))) (mvT hZ (hw _ (List.mem_of_getElem? (i := 36) rfl))) (notFace_of_selects (args := #[]) (mvT hZ (hw _ (List.mem_of_getElem? (i := 38) rfl)))) (mvT hZ (hw _ (List.mem_of_getElem? (i := 38) rfl))) (mvT hZ (hw _ (List.mem_of_getElem? (i := 37) rfl))) (by decide) (backOf (W := 0) (rm6 l Z a0 hw [] b5_2 r (1 : Int32) (1 : Int32) crF (2 : Int32) (1 : Int32) d cd6_25 T5_25.heap n0 Z6_25 Fri6_25 Fhe6_25 ar6_25 hi1 ha1 SrF (by decide) (by decide) Ex6_25 g_b5_2 Fsi6_25 Fqu6_25 Ad6_25 hd1 gd ne2) hZ (hw _ (List.mem_of_getElem? (i := 39) rfl)) (hw _ (List.mem_of_getElem? (i := 2) rfl)) (by decide) (by decide)) q5a_26 q5c_26 (g := (mkF m 139 #[.val (.int p1), .val (.int p2), .val (.int p3), .val (.int p4), .val (.int (2 : Int32)), .val (.ref b5_2), .val (.int (1 : Int32)), .val (.int (0 : Int32))] [(.ref b5_2)])) rfl (by rw [hml]; rfl) (Steps.refl _) (argsL := []) (rest := []) (lenOf pd_3 rfl) rfl (by show 2 * 0 + _ ≤ _; exact Nat.le_of_eq rfl) (hb hby at_139) (fun _ _ => ⟨rfl, (rfl : T5_25.heap = _), (by decide : 0 + 1 + 2 ≤ _), (by decide : 0 + 4 + 8 ≤ _)⟩)
    dsimp only [Pt.U, Pt.locs, Pt.cells, Pt.slots] at X5_26 l5_26 y5_26 z5_26 st5_26 hQ5_26
    subst l5_26 y5_26 z5_26
    obtain ⟨rfl, N5q_26, K6_26, Ex6_26, Fri6_26, Fqu6_26, Fhe6_26, Fsi6_26, ⟨cd6_26, Ad6_26, Sd6_26⟩⟩ := hQ5_26
    have N5_26 := Fr.app N5_25 N5q_26
    have st_26p : ∀ target, Steps p.tables e below (T5_26.setTop (mkF m 162 #[.val (.int p1), .val (.int p2), .val (.int p3), .val (.int p4), .val (.int (2 : Int32)), .val (.ref b5_2), .val (.int (1 : Int32)), .val (.int (1 : Int32))] [])) target → Steps p.tables e below (T5_25.setTop (mkF m 131 #[.val (.int p1), .val (.int p2), .val (.int p3), .val (.int p4), .val (.int (2 : Int32)), .val (.ref b5_2), .val (.int (1 : Int32)), .val (.int (0 : Int32))] [])) target := by
      intro target kt
      show Steps p.tables e below (T5_25.setTop (mkF m 131 #[.val (.int p1), .val (.int p2), .val (.int p3), .val (.int p4), .val (.int (2 : Int32)), .val (.ref b5_2), .val (.int (1 : Int32)), .val (.int (0 : Int32))] [])) _
      refine XS.iload X5_25.here hx rfl (hb hby at_131) rfl ?_
      show Steps p.tables e below (T5_25.setTop (mkF m 133 #[.val (.int p1), .val (.int p2), .val (.int p3), .val (.int p4), .val (.int (2 : Int32)), .val (.ref b5_2), .val (.int (1 : Int32)), .val (.int (0 : Int32))] [(.int (2 : Int32))])) _
      refine XS.iconst X5_25.here hx rfl (hb hby at_133) ?_
      show Steps p.tables e below (T5_25.setTop (mkF m 134 #[.val (.int p1), .val (.int p2), .val (.int p3), .val (.int p4), .val (.int (2 : Int32)), .val (.ref b5_2), .val (.int (1 : Int32)), .val (.int (0 : Int32))] [(.int (2 : Int32)), (.int (2 : Int32))])) _
      refine XS.icmpNo X5_25.here hx rfl (hb hby at_134) rfl (flt hc134_26).1 ?_
      show Steps p.tables e below (T5_25.setTop (mkF m 137 #[.val (.int p1), .val (.int p2), .val (.int p3), .val (.int p4), .val (.int (2 : Int32)), .val (.ref b5_2), .val (.int (1 : Int32)), .val (.int (0 : Int32))] [])) _
      refine XS.aload X5_25.here hx rfl (hb hby at_137) rfl rfl ?_
      show Steps p.tables e below (T5_25.setTop (mkF m 139 #[.val (.int p1), .val (.int p2), .val (.int p3), .val (.int p4), .val (.int (2 : Int32)), .val (.ref b5_2), .val (.int (1 : Int32)), .val (.int (0 : Int32))] [(.ref b5_2)])) _
      refine st5_26.trans ?_
      show Steps p.tables e below (T5_26.setTop (mkF m 142 #[.val (.int p1), .val (.int p2), .val (.int p3), .val (.int p4), .val (.int (2 : Int32)), .val (.ref b5_2), .val (.int (1 : Int32)), .val (.int (0 : Int32))] [(.int (1 : Int32))])) _
      refine XS.istore X5_26.here hx rfl (hb hby at_142) rfl (l' := #[.val (.int p1), .val (.int p2), .val (.int p3), .val (.int p4), .val (.int (2 : Int32)), .val (.ref b5_2), .val (.int (1 : Int32)), .val (.int (1 : Int32))]) rfl ?_
      show Steps p.tables e below (T5_26.setTop (mkF m 144 #[.val (.int p1), .val (.int p2), .val (.int p3), .val (.int p4), .val (.int (2 : Int32)), .val (.ref b5_2), .val (.int (1 : Int32)), .val (.int (1 : Int32))] [])) _
      refine XS.iload X5_26.here hx rfl (hb hby at_144) rfl ?_
      show Steps p.tables e below (T5_26.setTop (mkF m 146 #[.val (.int p1), .val (.int p2), .val (.int p3), .val (.int p4), .val (.int (2 : Int32)), .val (.ref b5_2), .val (.int (1 : Int32)), .val (.int (1 : Int32))] [(.int (1 : Int32))])) _
      refine XS.ifNo X5_26.here hx rfl (hb hby at_146) rfl ((if0 _ _).trans (feq hc146_26).1) ?_
      show Steps p.tables e below (T5_26.setTop (mkF m 149 #[.val (.int p1), .val (.int p2), .val (.int p3), .val (.int p4), .val (.int (2 : Int32)), .val (.ref b5_2), .val (.int (1 : Int32)), .val (.int (1 : Int32))] [])) _
      refine XS.iload X5_26.here hx rfl (hb hby at_149) rfl ?_
      show Steps p.tables e below (T5_26.setTop (mkF m 151 #[.val (.int p1), .val (.int p2), .val (.int p3), .val (.int p4), .val (.int (2 : Int32)), .val (.ref b5_2), .val (.int (1 : Int32)), .val (.int (1 : Int32))] [(.int (1 : Int32))])) _
      refine XS.iconst X5_26.here hx rfl (hb hby at_151) ?_
      show Steps p.tables e below (T5_26.setTop (mkF m 152 #[.val (.int p1), .val (.int p2), .val (.int p3), .val (.int p4), .val (.int (2 : Int32)), .val (.ref b5_2), .val (.int (1 : Int32)), .val (.int (1 : Int32))] [(.int (1 : Int32)), (.int (1 : Int32))])) _
      refine XS.icmpNo X5_26.here hx rfl (hb hby at_152) rfl (teq ((by decide) : (1 : Int32) = (1 : Int32))).2 ?_
      show Steps p.tables e below (T5_26.setTop (mkF m 155 #[.val (.int p1), .val (.int p2), .val (.int p3), .val (.int p4), .val (.int (2 : Int32)), .val (.ref b5_2), .val (.int (1 : Int32)), .val (.int (1 : Int32))] [])) _
      refine XS.iconst X5_26.here hx rfl (hb hby at_155) ?_
      show Steps p.tables e below (T5_26.setTop (mkF m 156 #[.val (.int p1), .val (.int p2), .val (.int p3), .val (.int p4), .val (.int (2 : Int32)), .val (.ref b5_2), .val (.int (1 : Int32)), .val (.int (1 : Int32))] [(.int (1 : Int32))])) _
      refine XS.goto X5_26.here hx rfl (pc0 := 156) (pc' := 160) rfl (hb hby at_156) (by decide) (by decide) ?_
      show Steps p.tables e below (T5_26.setTop (mkF m 160 #[.val (.int p1), .val (.int p2), .val (.int p3), .val (.int p4), .val (.int (2 : Int32)), .val (.ref b5_2), .val (.int (1 : Int32)), .val (.int (1 : Int32))] [(.int (1 : Int32))])) _
      refine XS.istore X5_26.here hx rfl (hb hby at_160) rfl (l' := #[.val (.int p1), .val (.int p2), .val (.int p3), .val (.int p4), .val (.int (2 : Int32)), .val (.ref b5_2), .val (.int (1 : Int32)), .val (.int (1 : Int32))]) rfl ?_
      exact kt
    rw [show own_rem ((1 : Int32) + (1 : Int32)) (2 : Int32) = (0 : Int32) from by decide] at Fhe6_26
    rw [show ((1 : Int32) - (1 : Int32)) = (0 : Int32) from by decide] at Fsi6_26
    have Z6_26 : n0 ≤ T5_26.heap.size := Nat.le_trans Z6_25 K6_26.1
    have ar6_26 := own_ak ar6_25 K6_26 (ninS (Ne.symm ne1) (ninS ne3 nin0))
    have sd6_26 := Sd6_26.trans sd6_25
    have hc165_27 : (2 : Int32) < (3 : Int32) := (by decide)
    have st_27p : ∀ target, Steps p.tables e below (T5_26.setTop (mkF m 193 #[.val (.int p1), .val (.int p2), .val (.int p3), .val (.int p4), .val (.int (2 : Int32)), .val (.ref b5_2), .val (.int (1 : Int32)), .val (.int (1 : Int32))] [])) target → Steps p.tables e below (T5_26.setTop (mkF m 162 #[.val (.int p1), .val (.int p2), .val (.int p3), .val (.int p4), .val (.int (2 : Int32)), .val (.ref b5_2), .val (.int (1 : Int32)), .val (.int (1 : Int32))] [])) target := by
      intro target kt
      show Steps p.tables e below (T5_26.setTop (mkF m 162 #[.val (.int p1), .val (.int p2), .val (.int p3), .val (.int p4), .val (.int (2 : Int32)), .val (.ref b5_2), .val (.int (1 : Int32)), .val (.int (1 : Int32))] [])) _
      refine XS.iload X5_26.here hx rfl (hb hby at_162) rfl ?_
      show Steps p.tables e below (T5_26.setTop (mkF m 164 #[.val (.int p1), .val (.int p2), .val (.int p3), .val (.int p4), .val (.int (2 : Int32)), .val (.ref b5_2), .val (.int (1 : Int32)), .val (.int (1 : Int32))] [(.int (2 : Int32))])) _
      refine XS.iconst X5_26.here hx rfl (hb hby at_164) ?_
      show Steps p.tables e below (T5_26.setTop (mkF m 165 #[.val (.int p1), .val (.int p2), .val (.int p3), .val (.int p4), .val (.int (2 : Int32)), .val (.ref b5_2), .val (.int (1 : Int32)), .val (.int (1 : Int32))] [(.int (3 : Int32)), (.int (2 : Int32))])) _
      refine XS.icmpYes X5_26.here hx rfl (pc0 := 165) (pc' := 193) rfl (hb hby at_165) rfl (tlt hc165_27).1 (by decide) (by decide) ?_
      exact kt
    have hc196_28 : (2 : Int32) < (4 : Int32) := (by decide)
    have st_28p : ∀ target, Steps p.tables e below (T5_26.setTop (mkF m 224 #[.val (.int p1), .val (.int p2), .val (.int p3), .val (.int p4), .val (.int (2 : Int32)), .val (.ref b5_2), .val (.int (1 : Int32)), .val (.int (1 : Int32))] [])) target → Steps p.tables e below (T5_26.setTop (mkF m 193 #[.val (.int p1), .val (.int p2), .val (.int p3), .val (.int p4), .val (.int (2 : Int32)), .val (.ref b5_2), .val (.int (1 : Int32)), .val (.int (1 : Int32))] [])) target := by
      intro target kt
      show Steps p.tables e below (T5_26.setTop (mkF m 193 #[.val (.int p1), .val (.int p2), .val (.int p3), .val (.int p4), .val (.int (2 : Int32)), .val (.ref b5_2), .val (.int (1 : Int32)), .val (.int (1 : Int32))] [])) _
      refine XS.iload X5_26.here hx rfl (hb hby at_193) rfl ?_
      show Steps p.tables e below (T5_26.setTop (mkF m 195 #[.val (.int p1), .val (.int p2), .val (.int p3), .val (.int p4), .val (.int (2 : Int32)), .val (.ref b5_2), .val (.int (1 : Int32)), .val (.int (1 : Int32))] [(.int (2 : Int32))])) _
      refine XS.iconst X5_26.here hx rfl (hb hby at_195) ?_
      show Steps p.tables e below (T5_26.setTop (mkF m 196 #[.val (.int p1), .val (.int p2), .val (.int p3), .val (.int p4), .val (.int (2 : Int32)), .val (.ref b5_2), .val (.int (1 : Int32)), .val (.int (1 : Int32))] [(.int (4 : Int32)), (.int (2 : Int32))])) _
      refine XS.icmpYes X5_26.here hx rfl (pc0 := 196) (pc' := 224) rfl (hb hby at_196) rfl (tlt hc196_28).1 (by decide) (by decide) ?_
      exact kt
    have hc233_29 : ¬ ((1 : Int32) = (0 : Int32)) := (by decide)
    obtain ⟨cq5_29, kq5_29, q5a_29, q5b_29, q5c_29⟩ := isOf hZ (rfl : T5_26.heap = _) Ex6_26
    obtain ⟨_, _, ⟨T5_29, L5_29, k5_29, n5_29⟩, -, X5_29, ⟨Lc5_29, hQ5_29, l5_29, y5_29, z5_29⟩, st5_29⟩ := X5_26.virtualBack hx (y := (⟨"com/example/assignor/assignor/NodeQueue", "isEmpty", "()Z"⟩ : MethodName)) (z := (⟨"com/example/assignor/assignor/NodeQueue", "isEmpty", "()Z"⟩ : MethodName)) hown (mvT hZ (hw _ (List.mem_of_getElem? (i := 24) rfl))) (mvT hZ (hw _ (List.mem_of_getElem? (i := 25) rfl))) (notFace_of_selects (args := #[]) (mvT hZ (hw _ (List.mem_of_getElem? (i := 27) rfl)))) (mvT hZ (hw _ (List.mem_of_getElem? (i := 27) rfl))) (mvT hZ (hw _ (List.mem_of_getElem? (i := 26) rfl))) (by decide) (backOf (W := 0) (rm4 l Z a0 hw [] b5_2 (0 : Int32) T5_26.heap n0 Z6_26 Fsi6_26) hZ (hw _ (List.mem_of_getElem? (i := 28) rfl)) (hw _ (List.mem_of_getElem? (i := 2) rfl)) (by decide) (by decide)) q5a_29 q5c_29 (g := (mkF m 226 #[.val (.int p1), .val (.int p2), .val (.int p3), .val (.int p4), .val (.int (2 : Int32)), .val (.ref b5_2), .val (.int (1 : Int32)), .val (.int (1 : Int32))] [(.ref b5_2)])) rfl (by rw [hml]; rfl) (Steps.refl _) (argsL := []) (rest := []) (lenOf pd_2 rfl) rfl (by show 2 * 0 + _ ≤ _; exact Nat.le_of_eq rfl) (hb hby at_226) (fun _ _ => ⟨rfl, (rfl : T5_26.heap = _), (by decide : 0 + 1 + 2 ≤ _), (by decide : 0 + 4 + 8 ≤ _)⟩)
    dsimp only [Pt.U, Pt.locs, Pt.cells, Pt.slots] at X5_29 l5_29 y5_29 z5_29 st5_29 hQ5_29
    subst l5_29 y5_29 z5_29
    obtain ⟨rfl, N5q_29, g4_29⟩ := hQ5_29
    have N5_29 := Fr.app N5_26 N5q_29
    have st_29p : ∀ target, Steps p.tables e below (T5_29.setTop (mkF m 246 #[.val (.int p1), .val (.int p2), .val (.int p3), .val (.int p4), .val (.int (2 : Int32)), .val (.ref b5_2), .val (.int (1 : Int32)), .val (.int (own_emp (0 : Int32)))] [(.int (1 : Int32))])) target → Steps p.tables e below (T5_26.setTop (mkF m 224 #[.val (.int p1), .val (.int p2), .val (.int p3), .val (.int p4), .val (.int (2 : Int32)), .val (.ref b5_2), .val (.int (1 : Int32)), .val (.int (1 : Int32))] [])) target := by
      intro target kt
      show Steps p.tables e below (T5_26.setTop (mkF m 224 #[.val (.int p1), .val (.int p2), .val (.int p3), .val (.int p4), .val (.int (2 : Int32)), .val (.ref b5_2), .val (.int (1 : Int32)), .val (.int (1 : Int32))] [])) _
      refine XS.aload X5_26.here hx rfl (hb hby at_224) rfl rfl ?_
      show Steps p.tables e below (T5_26.setTop (mkF m 226 #[.val (.int p1), .val (.int p2), .val (.int p3), .val (.int p4), .val (.int (2 : Int32)), .val (.ref b5_2), .val (.int (1 : Int32)), .val (.int (1 : Int32))] [(.ref b5_2)])) _
      refine st5_29.trans ?_
      show Steps p.tables e below (T5_29.setTop (mkF m 229 #[.val (.int p1), .val (.int p2), .val (.int p3), .val (.int p4), .val (.int (2 : Int32)), .val (.ref b5_2), .val (.int (1 : Int32)), .val (.int (1 : Int32))] [(.int (own_emp (0 : Int32)))])) _
      refine XS.istore X5_29.here hx rfl (hb hby at_229) rfl (l' := #[.val (.int p1), .val (.int p2), .val (.int p3), .val (.int p4), .val (.int (2 : Int32)), .val (.ref b5_2), .val (.int (1 : Int32)), .val (.int (own_emp (0 : Int32)))]) rfl ?_
      show Steps p.tables e below (T5_29.setTop (mkF m 231 #[.val (.int p1), .val (.int p2), .val (.int p3), .val (.int p4), .val (.int (2 : Int32)), .val (.ref b5_2), .val (.int (1 : Int32)), .val (.int (own_emp (0 : Int32)))] [])) _
      refine XS.iload X5_29.here hx rfl (hb hby at_231) rfl ?_
      show Steps p.tables e below (T5_29.setTop (mkF m 233 #[.val (.int p1), .val (.int p2), .val (.int p3), .val (.int p4), .val (.int (2 : Int32)), .val (.ref b5_2), .val (.int (1 : Int32)), .val (.int (own_emp (0 : Int32)))] [(.int (1 : Int32))])) _
      refine XS.ifNo X5_29.here hx rfl (hb hby at_233) rfl ((if0 _ _).trans (feq hc233_29).1) ?_
      show Steps p.tables e below (T5_29.setTop (mkF m 236 #[.val (.int p1), .val (.int p2), .val (.int p3), .val (.int p4), .val (.int (2 : Int32)), .val (.ref b5_2), .val (.int (1 : Int32)), .val (.int (own_emp (0 : Int32)))] [])) _
      refine XS.iload X5_29.here hx rfl (hb hby at_236) rfl ?_
      show Steps p.tables e below (T5_29.setTop (mkF m 238 #[.val (.int p1), .val (.int p2), .val (.int p3), .val (.int p4), .val (.int (2 : Int32)), .val (.ref b5_2), .val (.int (1 : Int32)), .val (.int (own_emp (0 : Int32)))] [(.int (own_emp (0 : Int32)))])) _
      refine XS.ifNo X5_29.here hx rfl (hb hby at_238) rfl ((if0 _ _).trans (feq ((by decide) : ¬ ((own_emp (0 : Int32)) = (0 : Int32)))).1) ?_
      show Steps p.tables e below (T5_29.setTop (mkF m 241 #[.val (.int p1), .val (.int p2), .val (.int p3), .val (.int p4), .val (.int (2 : Int32)), .val (.ref b5_2), .val (.int (1 : Int32)), .val (.int (own_emp (0 : Int32)))] [])) _
      refine XS.iconst X5_29.here hx rfl (hb hby at_241) ?_
      show Steps p.tables e below (T5_29.setTop (mkF m 242 #[.val (.int p1), .val (.int p2), .val (.int p3), .val (.int p4), .val (.int (2 : Int32)), .val (.ref b5_2), .val (.int (1 : Int32)), .val (.int (own_emp (0 : Int32)))] [(.int (1 : Int32))])) _
      refine XS.goto X5_29.here hx rfl (pc0 := 242) (pc' := 246) rfl (hb hby at_242) (by decide) (by decide) ?_
      exact kt
    obtain ⟨fs, hr, hrun, hended, hW, hsame⟩ := X5_29.leave (v := some (.int (1 : Int32))) (fun h => by rw [Bd.returns] at h; cases h)
    refine ⟨_, _, pre0 _ ?_, hrun, hended, _, _, rfl, ?_, ⟨_, rfl⟩, hW, hsame.mono (by decide) (by decide)⟩
    · show Steps p.tables e below (s₁.setTop (mkF m 0 #[.val (.int p1), .val (.int p2), .val (.int p3), .val (.int p4), .unset, .unset, .unset, .unset] [])) _
      refine st_1p _ ?_
      refine st_2p _ ?_
      refine stP _ ?_
      refine st_8p _ ?_
      refine st_23p _ ?_
      refine st_24p _ ?_
      refine st_25p _ ?_
      refine st_26p _ ?_
      refine st_27p _ ?_
      refine st_28p _ ?_
      refine st_29p _ ?_
      exact retN X5_29 hx (t := .boolean) Bd.returns (by simp) (hb hby at_246) hr
    · show Q0 Z p1 p2 p3 p4 h0 n0 _ T5_29.heap _
      exact ⟨rfl, N5_29⟩
  · have eN : (3 : Int32).toNatClampNeg = 3 := by decide
    have hc66_30 : ¬ ((3 : Int32) = (0 : Int32)) := (by decide)
    obtain ⟨cq5_30, kq5_30, q5a_30, q5b_30, q5c_30⟩ := isOf hZ (rfl : T5_8.heap = _) ExF
    obtain ⟨_, _, ⟨T5_30, L5_30, k5_30, n5_30⟩, -, X5_30, ⟨Lc5_30, hQ5_30, l5_30, y5_30, z5_30⟩, st5_30⟩ := X5_8.virtualBack hx (y := (⟨"com/example/assignor/assignor/NodeQueue", "isEmpty", "()Z"⟩ : MethodName)) (z := (⟨"com/example/assignor/assignor/NodeQueue", "isEmpty", "()Z"⟩ : MethodName)) hown (mvT hZ (hw _ (List.mem_of_getElem? (i := 24) rfl))) (mvT hZ (hw _ (List.mem_of_getElem? (i := 25) rfl))) (notFace_of_selects (args := #[]) (mvT hZ (hw _ (List.mem_of_getElem? (i := 27) rfl)))) (mvT hZ (hw _ (List.mem_of_getElem? (i := 27) rfl))) (mvT hZ (hw _ (List.mem_of_getElem? (i := 26) rfl))) (by decide) (backOf (W := 0) (rm4 l Z a0 hw [] b5_2 (3 : Int32) T5_8.heap n0 ZF FsiF) hZ (hw _ (List.mem_of_getElem? (i := 28) rfl)) (hw _ (List.mem_of_getElem? (i := 2) rfl)) (by decide) (by decide)) q5a_30 q5c_30 (g := (mkF m 61 #[.val (.int p1), .val (.int p2), .val (.int p3), .val (.int p4), .val (.int (3 : Int32)), .val (.ref b5_2), .unset, .unset] [(.ref b5_2)])) rfl (by rw [hml]; rfl) (Steps.refl _) (argsL := []) (rest := []) (lenOf pd_2 rfl) rfl (by show 2 * 0 + _ ≤ _; exact Nat.le_of_eq rfl) (hb hby at_61) (fun _ _ => ⟨rfl, (rfl : T5_8.heap = _), (by decide : 0 + 1 + 2 ≤ _), (by decide : 0 + 4 + 8 ≤ _)⟩)
    dsimp only [Pt.U, Pt.locs, Pt.cells, Pt.slots] at X5_30 l5_30 y5_30 z5_30 st5_30 hQ5_30
    subst l5_30 y5_30 z5_30
    obtain ⟨rfl, N5q_30, g4_30⟩ := hQ5_30
    have N5_30 := Fr.app N5_8 N5q_30
    have st_30p : ∀ target, Steps p.tables e below (T5_30.setTop (mkF m 84 #[.val (.int p1), .val (.int p2), .val (.int p3), .val (.int p4), .val (.int (3 : Int32)), .val (.ref b5_2), .val (.int (1 : Int32)), .unset] [])) target → Steps p.tables e below (T5_8.setTop (mkF m 59 #[.val (.int p1), .val (.int p2), .val (.int p3), .val (.int p4), .val (.int (3 : Int32)), .val (.ref b5_2), .unset, .unset] [])) target := by
      intro target kt
      show Steps p.tables e below (T5_8.setTop (mkF m 59 #[.val (.int p1), .val (.int p2), .val (.int p3), .val (.int p4), .val (.int (3 : Int32)), .val (.ref b5_2), .unset, .unset] [])) _
      refine XS.aload X5_8.here hx rfl (hb hby at_59) rfl rfl ?_
      show Steps p.tables e below (T5_8.setTop (mkF m 61 #[.val (.int p1), .val (.int p2), .val (.int p3), .val (.int p4), .val (.int (3 : Int32)), .val (.ref b5_2), .unset, .unset] [(.ref b5_2)])) _
      refine st5_30.trans ?_
      show Steps p.tables e below (T5_30.setTop (mkF m 64 #[.val (.int p1), .val (.int p2), .val (.int p3), .val (.int p4), .val (.int (3 : Int32)), .val (.ref b5_2), .unset, .unset] [(.int (own_emp (3 : Int32)))])) _
      refine XS.iload X5_30.here hx rfl (hb hby at_64) rfl ?_
      show Steps p.tables e below (T5_30.setTop (mkF m 66 #[.val (.int p1), .val (.int p2), .val (.int p3), .val (.int p4), .val (.int (3 : Int32)), .val (.ref b5_2), .unset, .unset] [(.int (3 : Int32)), (.int (own_emp (3 : Int32)))])) _
      refine XS.ifYes X5_30.here hx rfl (pc0 := 66) (pc' := 73) rfl (hb hby at_66) rfl ((if0 _ _).trans (feq hc66_30).2) (by decide) (by decide) ?_
      show Steps p.tables e below (T5_30.setTop (mkF m 73 #[.val (.int p1), .val (.int p2), .val (.int p3), .val (.int p4), .val (.int (3 : Int32)), .val (.ref b5_2), .unset, .unset] [(.int (own_emp (3 : Int32)))])) _
      refine XS.iconst X5_30.here hx rfl (hb hby at_73) ?_
      show Steps p.tables e below (T5_30.setTop (mkF m 74 #[.val (.int p1), .val (.int p2), .val (.int p3), .val (.int p4), .val (.int (3 : Int32)), .val (.ref b5_2), .unset, .unset] [(.int (0 : Int32)), (.int (own_emp (3 : Int32)))])) _
      refine XS.icmpNo X5_30.here hx rfl (hb hby at_74) rfl (teq ((by decide) : (own_emp (3 : Int32)) = (0 : Int32))).2 ?_
      show Steps p.tables e below (T5_30.setTop (mkF m 77 #[.val (.int p1), .val (.int p2), .val (.int p3), .val (.int p4), .val (.int (3 : Int32)), .val (.ref b5_2), .unset, .unset] [])) _
      refine XS.iconst X5_30.here hx rfl (hb hby at_77) ?_
      show Steps p.tables e below (T5_30.setTop (mkF m 78 #[.val (.int p1), .val (.int p2), .val (.int p3), .val (.int p4), .val (.int (3 : Int32)), .val (.ref b5_2), .unset, .unset] [(.int (1 : Int32))])) _
      refine XS.goto X5_30.here hx rfl (pc0 := 78) (pc' := 82) rfl (hb hby at_78) (by decide) (by decide) ?_
      show Steps p.tables e below (T5_30.setTop (mkF m 82 #[.val (.int p1), .val (.int p2), .val (.int p3), .val (.int p4), .val (.int (3 : Int32)), .val (.ref b5_2), .unset, .unset] [(.int (1 : Int32))])) _
      refine XS.istore X5_30.here hx rfl (hb hby at_82) rfl (l' := #[.val (.int p1), .val (.int p2), .val (.int p3), .val (.int p4), .val (.int (3 : Int32)), .val (.ref b5_2), .val (.int (1 : Int32)), .unset]) rfl ?_
      exact kt
    have hdd := own_rem_in p4 (y := (3 : Int32)) (by decide)
    have ddl : (own_rem (p4 &&& (2147483647 : Int32)) (3 : Int32)) < (3 : Int32) := by rw [Int32.lt_iff_toInt_lt]; exact hdd.2
    have hindd : ¬ ((own_rem (p4 &&& (2147483647 : Int32)) (3 : Int32)) < 0 ∨ cdF.slots.size ≤ (own_rem (p4 &&& (2147483647 : Int32)) (3 : Int32)).toNatClampNeg) := inb_of SdF ⟨own_nn hdd.1, ddl⟩
    have hc86_31 : (0 : Int32) < (3 : Int32) := (by decide)
    have hy97_31 : (3 : Int32) ≠ 0 := (by decide)
    obtain ⟨cq5_31, kq5_31, q5a_31, q5b_31, q5c_31⟩ := isOf hZ g4_30 ExF
    obtain ⟨_, _, ⟨T5_31, L5_31, k5_31, n5_31⟩, -, X5_31, ⟨Lc5_31, hQ5_31, l5_31, y5_31, z5_31⟩, st5_31⟩ := X5_30.virtualBack hx (y := (⟨"com/example/assignor/assignor/NodeQueue", "offer", "(I)V"⟩ : MethodName)) (z := (⟨"com/example/assignor/assignor/NodeQueue", "offer", "(I)V"⟩ : MethodName)) hown (mvT hZ (hw _ (List.mem_of_getElem? (i := 30) rfl))) (mvT hZ (hw _ (List.mem_of_getElem? (i := 31) rfl))) (notFace_of_selects (args := #[]) (mvT hZ (hw _ (List.mem_of_getElem? (i := 33) rfl)))) (mvT hZ (hw _ (List.mem_of_getElem? (i := 33) rfl))) (mvT hZ (hw _ (List.mem_of_getElem? (i := 32) rfl))) (by decide) (backOf (W := 0) (rm5n l Z a0 hw [] b5_2 (own_rem (p4 &&& (2147483647 : Int32)) (3 : Int32)) d (1 : Int32) cdF T5_8.heap n0 ZF FquF AdF hindd (HdF _ (by rw [← SdF]; exact Nat.lt_of_not_le fun u => hindd (Or.inr u))) (by decide)) hZ (hw _ (List.mem_of_getElem? (i := 34) rfl)) (hw _ (List.mem_of_getElem? (i := 2) rfl)) (by decide) (by decide)) q5a_31 q5c_31 (g := (mkF m 98 #[.val (.int p1), .val (.int p2), .val (.int p3), .val (.int p4), .val (.int (3 : Int32)), .val (.ref b5_2), .val (.int (1 : Int32)), .unset] [(.int (own_rem (p4 &&& (2147483647 : Int32)) (3 : Int32))), (.ref b5_2)])) rfl (by rw [hml]; rfl) (Steps.refl _) (argsL := [(.int (own_rem (p4 &&& (2147483647 : Int32)) (3 : Int32)))]) (rest := []) (lenOf pd_0 rfl) rfl (by show 2 * 0 + _ ≤ _; exact Nat.le_of_eq rfl) (hb hby at_98) (fun _ _ => ⟨rfl, g4_30, (by decide : 0 + 1 + 2 ≤ _), (by decide : 0 + 4 + 8 ≤ _)⟩)
    dsimp only [Pt.U, Pt.locs, Pt.cells, Pt.slots] at X5_31 l5_31 y5_31 z5_31 st5_31 hQ5_31
    subst l5_31 y5_31 z5_31
    obtain ⟨rfl, N5q_31, g5_31⟩ := hQ5_31
    have N5_31 := Fr.app N5_30 N5q_31
    have st_31p : ∀ target, Steps p.tables e below (T5_31.setTop (mkF m 101 #[.val (.int p1), .val (.int p2), .val (.int p3), .val (.int p4), .val (.int (3 : Int32)), .val (.ref b5_2), .val (.int (1 : Int32)), .unset] [])) target → Steps p.tables e below (T5_30.setTop (mkF m 84 #[.val (.int p1), .val (.int p2), .val (.int p3), .val (.int p4), .val (.int (3 : Int32)), .val (.ref b5_2), .val (.int (1 : Int32)), .unset] [])) target := by
      intro target kt
      show Steps p.tables e below (T5_30.setTop (mkF m 84 #[.val (.int p1), .val (.int p2), .val (.int p3), .val (.int p4), .val (.int (3 : Int32)), .val (.ref b5_2), .val (.int (1 : Int32)), .unset] [])) _
      refine XS.iload X5_30.here hx rfl (hb hby at_84) rfl ?_
      show Steps p.tables e below (T5_30.setTop (mkF m 86 #[.val (.int p1), .val (.int p2), .val (.int p3), .val (.int p4), .val (.int (3 : Int32)), .val (.ref b5_2), .val (.int (1 : Int32)), .unset] [(.int (3 : Int32))])) _
      refine XS.ifNo X5_30.here hx rfl (hb hby at_86) rfl ((if0 _ _).trans (tlt hc86_31).2.2.2) ?_
      show Steps p.tables e below (T5_30.setTop (mkF m 89 #[.val (.int p1), .val (.int p2), .val (.int p3), .val (.int p4), .val (.int (3 : Int32)), .val (.ref b5_2), .val (.int (1 : Int32)), .unset] [])) _
      refine XS.aload X5_30.here hx rfl (hb hby at_89) rfl rfl ?_
      show Steps p.tables e below (T5_30.setTop (mkF m 91 #[.val (.int p1), .val (.int p2), .val (.int p3), .val (.int p4), .val (.int (3 : Int32)), .val (.ref b5_2), .val (.int (1 : Int32)), .unset] [(.ref b5_2)])) _
      refine XS.iloadN X5_30.here hx rfl (hb hby at_91) rfl ?_
      show Steps p.tables e below (T5_30.setTop (mkF m 92 #[.val (.int p1), .val (.int p2), .val (.int p3), .val (.int p4), .val (.int (3 : Int32)), .val (.ref b5_2), .val (.int (1 : Int32)), .unset] [(.int p4), (.ref b5_2)])) _
      refine X5_30.ldcInt hx hown (mvT hZ (hw _ (List.mem_of_getElem? (i := 29) rfl))) (g := (mkF m 92 #[.val (.int p1), .val (.int p2), .val (.int p3), .val (.int p4), .val (.int (3 : Int32)), .val (.ref b5_2), .val (.int (1 : Int32)), .unset] [(.int p4), (.ref b5_2)])) rfl (hb hby at_92) _ ?_
      show Steps p.tables e below (T5_30.setTop (mkF m 94 #[.val (.int p1), .val (.int p2), .val (.int p3), .val (.int p4), .val (.int (3 : Int32)), .val (.ref b5_2), .val (.int (1 : Int32)), .unset] [(.int (2147483647 : Int32)), (.int p4), (.ref b5_2)])) _
      refine XS.iand X5_30.here hx rfl (hb hby at_94) rfl ?_
      show Steps p.tables e below (T5_30.setTop (mkF m 95 #[.val (.int p1), .val (.int p2), .val (.int p3), .val (.int p4), .val (.int (3 : Int32)), .val (.ref b5_2), .val (.int (1 : Int32)), .unset] [(.int (p4 &&& (2147483647 : Int32))), (.ref b5_2)])) _
      refine XS.iload X5_30.here hx rfl (hb hby at_95) rfl ?_
      show Steps p.tables e below (T5_30.setTop (mkF m 97 #[.val (.int p1), .val (.int p2), .val (.int p3), .val (.int p4), .val (.int (3 : Int32)), .val (.ref b5_2), .val (.int (1 : Int32)), .unset] [(.int (3 : Int32)), (.int (p4 &&& (2147483647 : Int32))), (.ref b5_2)])) _
      refine XS.irem X5_30.here hx rfl (hb hby at_97) rfl hy97_31 ?_
      show Steps p.tables e below (T5_30.setTop (mkF m 98 #[.val (.int p1), .val (.int p2), .val (.int p3), .val (.int p4), .val (.int (3 : Int32)), .val (.ref b5_2), .val (.int (1 : Int32)), .unset] [(.int (own_rem (p4 &&& (2147483647 : Int32)) (3 : Int32))), (.ref b5_2)])) _
      refine st5_31.trans ?_
      exact kt
    have hi0 : ¬ ((0 : Int32) < 0 ∨ crF.slots.size ≤ ((0 : Int32)).toNatClampNeg) := inb_of SrF ⟨by decide, by decide⟩
    have ha0 : crF.slots[((0 : Int32)).toNatClampNeg]? = some (.int (0 : Int32)) := by rw [show ((0 : Int32)).toNatClampNeg = 0 from by decide]; exact HrF 0 (by rw [eN]; decide)
    have hd0 : ¬ ((0 : Int32) < 0 ∨ cdF.slots.size ≤ ((0 : Int32)).toNatClampNeg) := inb_of SdF ⟨by decide, by decide⟩
    have hc104_32 : ¬ ((3 : Int32) < (1 : Int32)) := (by decide)
    have hc116_32 : ¬ ((1 : Int32) = (0 : Int32)) := (by decide)
    obtain ⟨cq5_32, kq5_32, q5a_32, q5b_32, q5c_32⟩ := isOf hZ g5_31 ExF
    obtain ⟨_, _, ⟨T5_32, L5_32, k5_32, n5_32⟩, -, X5_32, ⟨Lc5_32, hQ5_32, l5_32, y5_32, z5_32⟩, st5_32⟩ := X5_31.virtualBack hx (y := (⟨"com/example/assignor/assignor/NodeQueue", "poll", "()I"⟩ : MethodName)) (z := (⟨"com/example/assignor/assignor/NodeQueue", "poll", "()I"⟩ : MethodName)) hown (mvT hZ (hw _ (List.mem_of_getElem? (i := 35) rfl))) (mvT hZ (hw _ (List.mem_of_getElem? (i := 36) rfl))) (notFace_of_selects (args := #[]) (mvT hZ (hw _ (List.mem_of_getElem? (i := 38) rfl)))) (mvT hZ (hw _ (List.mem_of_getElem? (i := 38) rfl))) (mvT hZ (hw _ (List.mem_of_getElem? (i := 37) rfl))) (by decide) (backOf (W := 0) (rm6 l Z a0 hw [] b5_2 r (0 : Int32) (0 : Int32) crF (3 : Int32) (3 : Int32) d cdF T5_8.heap n0 ZF FriF FheF ArF hi0 ha0 SrF (by decide) (by decide) ExF g_b5_2 FsiF FquF AdF hd0 gd ne2) hZ (hw _ (List.mem_of_getElem? (i := 39) rfl)) (hw _ (List.mem_of_getElem? (i := 2) rfl)) (by decide) (by decide)) q5a_32 q5c_32 (g := (mkF m 109 #[.val (.int p1), .val (.int p2), .val (.int p3), .val (.int p4), .val (.int (3 : Int32)), .val (.ref b5_2), .val (.int (1 : Int32)), .unset] [(.ref b5_2)])) rfl (by rw [hml]; rfl) (Steps.refl _) (argsL := []) (rest := []) (lenOf pd_3 rfl) rfl (by show 2 * 0 + _ ≤ _; exact Nat.le_of_eq rfl) (hb hby at_109) (fun _ _ => ⟨rfl, g5_31, (by decide : 0 + 1 + 2 ≤ _), (by decide : 0 + 4 + 8 ≤ _)⟩)
    dsimp only [Pt.U, Pt.locs, Pt.cells, Pt.slots] at X5_32 l5_32 y5_32 z5_32 st5_32 hQ5_32
    subst l5_32 y5_32 z5_32
    obtain ⟨rfl, N5q_32, K6_32, Ex6_32, Fri6_32, Fqu6_32, Fhe6_32, Fsi6_32, ⟨cd6_32, Ad6_32, Sd6_32⟩⟩ := hQ5_32
    have N5_32 := Fr.app N5_31 N5q_32
    have st_32p : ∀ target, Steps p.tables e below (T5_32.setTop (mkF m 131 #[.val (.int p1), .val (.int p2), .val (.int p3), .val (.int p4), .val (.int (3 : Int32)), .val (.ref b5_2), .val (.int (1 : Int32)), .val (.int (0 : Int32))] [])) target → Steps p.tables e below (T5_31.setTop (mkF m 101 #[.val (.int p1), .val (.int p2), .val (.int p3), .val (.int p4), .val (.int (3 : Int32)), .val (.ref b5_2), .val (.int (1 : Int32)), .unset] [])) target := by
      intro target kt
      show Steps p.tables e below (T5_31.setTop (mkF m 101 #[.val (.int p1), .val (.int p2), .val (.int p3), .val (.int p4), .val (.int (3 : Int32)), .val (.ref b5_2), .val (.int (1 : Int32)), .unset] [])) _
      refine XS.iload X5_31.here hx rfl (hb hby at_101) rfl ?_
      show Steps p.tables e below (T5_31.setTop (mkF m 103 #[.val (.int p1), .val (.int p2), .val (.int p3), .val (.int p4), .val (.int (3 : Int32)), .val (.ref b5_2), .val (.int (1 : Int32)), .unset] [(.int (3 : Int32))])) _
      refine XS.iconst X5_31.here hx rfl (hb hby at_103) ?_
      show Steps p.tables e below (T5_31.setTop (mkF m 104 #[.val (.int p1), .val (.int p2), .val (.int p3), .val (.int p4), .val (.int (3 : Int32)), .val (.ref b5_2), .val (.int (1 : Int32)), .unset] [(.int (1 : Int32)), (.int (3 : Int32))])) _
      refine XS.icmpNo X5_31.here hx rfl (hb hby at_104) rfl (flt hc104_32).1 ?_
      show Steps p.tables e below (T5_31.setTop (mkF m 107 #[.val (.int p1), .val (.int p2), .val (.int p3), .val (.int p4), .val (.int (3 : Int32)), .val (.ref b5_2), .val (.int (1 : Int32)), .unset] [])) _
      refine XS.aload X5_31.here hx rfl (hb hby at_107) rfl rfl ?_
      show Steps p.tables e below (T5_31.setTop (mkF m 109 #[.val (.int p1), .val (.int p2), .val (.int p3), .val (.int p4), .val (.int (3 : Int32)), .val (.ref b5_2), .val (.int (1 : Int32)), .unset] [(.ref b5_2)])) _
      refine st5_32.trans ?_
      show Steps p.tables e below (T5_32.setTop (mkF m 112 #[.val (.int p1), .val (.int p2), .val (.int p3), .val (.int p4), .val (.int (3 : Int32)), .val (.ref b5_2), .val (.int (1 : Int32)), .unset] [(.int (0 : Int32))])) _
      refine XS.istore X5_32.here hx rfl (hb hby at_112) rfl (l' := #[.val (.int p1), .val (.int p2), .val (.int p3), .val (.int p4), .val (.int (3 : Int32)), .val (.ref b5_2), .val (.int (1 : Int32)), .val (.int (0 : Int32))]) rfl ?_
      show Steps p.tables e below (T5_32.setTop (mkF m 114 #[.val (.int p1), .val (.int p2), .val (.int p3), .val (.int p4), .val (.int (3 : Int32)), .val (.ref b5_2), .val (.int (1 : Int32)), .val (.int (0 : Int32))] [])) _
      refine XS.iload X5_32.here hx rfl (hb hby at_114) rfl ?_
      show Steps p.tables e below (T5_32.setTop (mkF m 116 #[.val (.int p1), .val (.int p2), .val (.int p3), .val (.int p4), .val (.int (3 : Int32)), .val (.ref b5_2), .val (.int (1 : Int32)), .val (.int (0 : Int32))] [(.int (1 : Int32))])) _
      refine XS.ifNo X5_32.here hx rfl (hb hby at_116) rfl ((if0 _ _).trans (feq hc116_32).1) ?_
      show Steps p.tables e below (T5_32.setTop (mkF m 119 #[.val (.int p1), .val (.int p2), .val (.int p3), .val (.int p4), .val (.int (3 : Int32)), .val (.ref b5_2), .val (.int (1 : Int32)), .val (.int (0 : Int32))] [])) _
      refine XS.iload X5_32.here hx rfl (hb hby at_119) rfl ?_
      show Steps p.tables e below (T5_32.setTop (mkF m 121 #[.val (.int p1), .val (.int p2), .val (.int p3), .val (.int p4), .val (.int (3 : Int32)), .val (.ref b5_2), .val (.int (1 : Int32)), .val (.int (0 : Int32))] [(.int (0 : Int32))])) _
      refine XS.ifNo X5_32.here hx rfl (hb hby at_121) rfl ((if0 _ _).trans (teq ((by decide) : (0 : Int32) = (0 : Int32))).2) ?_
      show Steps p.tables e below (T5_32.setTop (mkF m 124 #[.val (.int p1), .val (.int p2), .val (.int p3), .val (.int p4), .val (.int (3 : Int32)), .val (.ref b5_2), .val (.int (1 : Int32)), .val (.int (0 : Int32))] [])) _
      refine XS.iconst X5_32.here hx rfl (hb hby at_124) ?_
      show Steps p.tables e below (T5_32.setTop (mkF m 125 #[.val (.int p1), .val (.int p2), .val (.int p3), .val (.int p4), .val (.int (3 : Int32)), .val (.ref b5_2), .val (.int (1 : Int32)), .val (.int (0 : Int32))] [(.int (1 : Int32))])) _
      refine XS.goto X5_32.here hx rfl (pc0 := 125) (pc' := 129) rfl (hb hby at_125) (by decide) (by decide) ?_
      show Steps p.tables e below (T5_32.setTop (mkF m 129 #[.val (.int p1), .val (.int p2), .val (.int p3), .val (.int p4), .val (.int (3 : Int32)), .val (.ref b5_2), .val (.int (1 : Int32)), .val (.int (0 : Int32))] [(.int (1 : Int32))])) _
      refine XS.istore X5_32.here hx rfl (hb hby at_129) rfl (l' := #[.val (.int p1), .val (.int p2), .val (.int p3), .val (.int p4), .val (.int (3 : Int32)), .val (.ref b5_2), .val (.int (1 : Int32)), .val (.int (0 : Int32))]) rfl ?_
      exact kt
    rw [show own_rem ((0 : Int32) + (1 : Int32)) (3 : Int32) = (1 : Int32) from by decide] at Fhe6_32
    rw [show ((3 : Int32) - (1 : Int32)) = (2 : Int32) from by decide] at Fsi6_32
    have Z6_32 : n0 ≤ T5_32.heap.size := Nat.le_trans ZF K6_32.1
    have ar6_32 := own_ak ArF K6_32 (ninS (Ne.symm ne1) (ninS ne3 nin0))
    have sd6_32 := Sd6_32.trans SdF
    have hi1 : ¬ ((1 : Int32) < 0 ∨ crF.slots.size ≤ ((1 : Int32)).toNatClampNeg) := inb_of SrF ⟨by decide, by decide⟩
    have ha1 : crF.slots[((1 : Int32)).toNatClampNeg]? = some (.int (1 : Int32)) := by rw [show ((1 : Int32)).toNatClampNeg = 1 from by decide]; exact HrF 1 (by rw [eN]; decide)
    have hd1 : ¬ ((1 : Int32) < 0 ∨ cd6_32.slots.size ≤ ((1 : Int32)).toNatClampNeg) := inb_of sd6_32 ⟨by decide, by decide⟩
    have hc134_33 : ¬ ((3 : Int32) < (2 : Int32)) := (by decide)
    have hc146_33 : ¬ ((1 : Int32) = (0 : Int32)) := (by decide)
    obtain ⟨cq5_33, kq5_33, q5a_33, q5b_33, q5c_33⟩ := isOf hZ (rfl : T5_32.heap = _) Ex6_32
    obtain ⟨_, _, ⟨T5_33, L5_33, k5_33, n5_33⟩, -, X5_33, ⟨Lc5_33, hQ5_33, l5_33, y5_33, z5_33⟩, st5_33⟩ := X5_32.virtualBack hx (y := (⟨"com/example/assignor/assignor/NodeQueue", "poll", "()I"⟩ : MethodName)) (z := (⟨"com/example/assignor/assignor/NodeQueue", "poll", "()I"⟩ : MethodName)) hown (mvT hZ (hw _ (List.mem_of_getElem? (i := 35) rfl))) (mvT hZ (hw _ (List.mem_of_getElem? (i := 36) rfl))) (notFace_of_selects (args := #[]) (mvT hZ (hw _ (List.mem_of_getElem? (i := 38) rfl)))) (mvT hZ (hw _ (List.mem_of_getElem? (i := 38) rfl))) (mvT hZ (hw _ (List.mem_of_getElem? (i := 37) rfl))) (by decide) (backOf (W := 0) (rm6 l Z a0 hw [] b5_2 r (1 : Int32) (1 : Int32) crF (3 : Int32) (2 : Int32) d cd6_32 T5_32.heap n0 Z6_32 Fri6_32 Fhe6_32 ar6_32 hi1 ha1 SrF (by decide) (by decide) Ex6_32 g_b5_2 Fsi6_32 Fqu6_32 Ad6_32 hd1 gd ne2) hZ (hw _ (List.mem_of_getElem? (i := 39) rfl)) (hw _ (List.mem_of_getElem? (i := 2) rfl)) (by decide) (by decide)) q5a_33 q5c_33 (g := (mkF m 139 #[.val (.int p1), .val (.int p2), .val (.int p3), .val (.int p4), .val (.int (3 : Int32)), .val (.ref b5_2), .val (.int (1 : Int32)), .val (.int (0 : Int32))] [(.ref b5_2)])) rfl (by rw [hml]; rfl) (Steps.refl _) (argsL := []) (rest := []) (lenOf pd_3 rfl) rfl (by show 2 * 0 + _ ≤ _; exact Nat.le_of_eq rfl) (hb hby at_139) (fun _ _ => ⟨rfl, (rfl : T5_32.heap = _), (by decide : 0 + 1 + 2 ≤ _), (by decide : 0 + 4 + 8 ≤ _)⟩)
    dsimp only [Pt.U, Pt.locs, Pt.cells, Pt.slots] at X5_33 l5_33 y5_33 z5_33 st5_33 hQ5_33
    subst l5_33 y5_33 z5_33
    obtain ⟨rfl, N5q_33, K6_33, Ex6_33, Fri6_33, Fqu6_33, Fhe6_33, Fsi6_33, ⟨cd6_33, Ad6_33, Sd6_33⟩⟩ := hQ5_33
    have N5_33 := Fr.app N5_32 N5q_33
    have st_33p : ∀ target, Steps p.tables e below (T5_33.setTop (mkF m 162 #[.val (.int p1), .val (.int p2), .val (.int p3), .val (.int p4), .val (.int (3 : Int32)), .val (.ref b5_2), .val (.int (1 : Int32)), .val (.int (1 : Int32))] [])) target → Steps p.tables e below (T5_32.setTop (mkF m 131 #[.val (.int p1), .val (.int p2), .val (.int p3), .val (.int p4), .val (.int (3 : Int32)), .val (.ref b5_2), .val (.int (1 : Int32)), .val (.int (0 : Int32))] [])) target := by
      intro target kt
      show Steps p.tables e below (T5_32.setTop (mkF m 131 #[.val (.int p1), .val (.int p2), .val (.int p3), .val (.int p4), .val (.int (3 : Int32)), .val (.ref b5_2), .val (.int (1 : Int32)), .val (.int (0 : Int32))] [])) _
      refine XS.iload X5_32.here hx rfl (hb hby at_131) rfl ?_
      show Steps p.tables e below (T5_32.setTop (mkF m 133 #[.val (.int p1), .val (.int p2), .val (.int p3), .val (.int p4), .val (.int (3 : Int32)), .val (.ref b5_2), .val (.int (1 : Int32)), .val (.int (0 : Int32))] [(.int (3 : Int32))])) _
      refine XS.iconst X5_32.here hx rfl (hb hby at_133) ?_
      show Steps p.tables e below (T5_32.setTop (mkF m 134 #[.val (.int p1), .val (.int p2), .val (.int p3), .val (.int p4), .val (.int (3 : Int32)), .val (.ref b5_2), .val (.int (1 : Int32)), .val (.int (0 : Int32))] [(.int (2 : Int32)), (.int (3 : Int32))])) _
      refine XS.icmpNo X5_32.here hx rfl (hb hby at_134) rfl (flt hc134_33).1 ?_
      show Steps p.tables e below (T5_32.setTop (mkF m 137 #[.val (.int p1), .val (.int p2), .val (.int p3), .val (.int p4), .val (.int (3 : Int32)), .val (.ref b5_2), .val (.int (1 : Int32)), .val (.int (0 : Int32))] [])) _
      refine XS.aload X5_32.here hx rfl (hb hby at_137) rfl rfl ?_
      show Steps p.tables e below (T5_32.setTop (mkF m 139 #[.val (.int p1), .val (.int p2), .val (.int p3), .val (.int p4), .val (.int (3 : Int32)), .val (.ref b5_2), .val (.int (1 : Int32)), .val (.int (0 : Int32))] [(.ref b5_2)])) _
      refine st5_33.trans ?_
      show Steps p.tables e below (T5_33.setTop (mkF m 142 #[.val (.int p1), .val (.int p2), .val (.int p3), .val (.int p4), .val (.int (3 : Int32)), .val (.ref b5_2), .val (.int (1 : Int32)), .val (.int (0 : Int32))] [(.int (1 : Int32))])) _
      refine XS.istore X5_33.here hx rfl (hb hby at_142) rfl (l' := #[.val (.int p1), .val (.int p2), .val (.int p3), .val (.int p4), .val (.int (3 : Int32)), .val (.ref b5_2), .val (.int (1 : Int32)), .val (.int (1 : Int32))]) rfl ?_
      show Steps p.tables e below (T5_33.setTop (mkF m 144 #[.val (.int p1), .val (.int p2), .val (.int p3), .val (.int p4), .val (.int (3 : Int32)), .val (.ref b5_2), .val (.int (1 : Int32)), .val (.int (1 : Int32))] [])) _
      refine XS.iload X5_33.here hx rfl (hb hby at_144) rfl ?_
      show Steps p.tables e below (T5_33.setTop (mkF m 146 #[.val (.int p1), .val (.int p2), .val (.int p3), .val (.int p4), .val (.int (3 : Int32)), .val (.ref b5_2), .val (.int (1 : Int32)), .val (.int (1 : Int32))] [(.int (1 : Int32))])) _
      refine XS.ifNo X5_33.here hx rfl (hb hby at_146) rfl ((if0 _ _).trans (feq hc146_33).1) ?_
      show Steps p.tables e below (T5_33.setTop (mkF m 149 #[.val (.int p1), .val (.int p2), .val (.int p3), .val (.int p4), .val (.int (3 : Int32)), .val (.ref b5_2), .val (.int (1 : Int32)), .val (.int (1 : Int32))] [])) _
      refine XS.iload X5_33.here hx rfl (hb hby at_149) rfl ?_
      show Steps p.tables e below (T5_33.setTop (mkF m 151 #[.val (.int p1), .val (.int p2), .val (.int p3), .val (.int p4), .val (.int (3 : Int32)), .val (.ref b5_2), .val (.int (1 : Int32)), .val (.int (1 : Int32))] [(.int (1 : Int32))])) _
      refine XS.iconst X5_33.here hx rfl (hb hby at_151) ?_
      show Steps p.tables e below (T5_33.setTop (mkF m 152 #[.val (.int p1), .val (.int p2), .val (.int p3), .val (.int p4), .val (.int (3 : Int32)), .val (.ref b5_2), .val (.int (1 : Int32)), .val (.int (1 : Int32))] [(.int (1 : Int32)), (.int (1 : Int32))])) _
      refine XS.icmpNo X5_33.here hx rfl (hb hby at_152) rfl (teq ((by decide) : (1 : Int32) = (1 : Int32))).2 ?_
      show Steps p.tables e below (T5_33.setTop (mkF m 155 #[.val (.int p1), .val (.int p2), .val (.int p3), .val (.int p4), .val (.int (3 : Int32)), .val (.ref b5_2), .val (.int (1 : Int32)), .val (.int (1 : Int32))] [])) _
      refine XS.iconst X5_33.here hx rfl (hb hby at_155) ?_
      show Steps p.tables e below (T5_33.setTop (mkF m 156 #[.val (.int p1), .val (.int p2), .val (.int p3), .val (.int p4), .val (.int (3 : Int32)), .val (.ref b5_2), .val (.int (1 : Int32)), .val (.int (1 : Int32))] [(.int (1 : Int32))])) _
      refine XS.goto X5_33.here hx rfl (pc0 := 156) (pc' := 160) rfl (hb hby at_156) (by decide) (by decide) ?_
      show Steps p.tables e below (T5_33.setTop (mkF m 160 #[.val (.int p1), .val (.int p2), .val (.int p3), .val (.int p4), .val (.int (3 : Int32)), .val (.ref b5_2), .val (.int (1 : Int32)), .val (.int (1 : Int32))] [(.int (1 : Int32))])) _
      refine XS.istore X5_33.here hx rfl (hb hby at_160) rfl (l' := #[.val (.int p1), .val (.int p2), .val (.int p3), .val (.int p4), .val (.int (3 : Int32)), .val (.ref b5_2), .val (.int (1 : Int32)), .val (.int (1 : Int32))]) rfl ?_
      exact kt
    rw [show own_rem ((1 : Int32) + (1 : Int32)) (3 : Int32) = (2 : Int32) from by decide] at Fhe6_33
    rw [show ((2 : Int32) - (1 : Int32)) = (1 : Int32) from by decide] at Fsi6_33
    have Z6_33 : n0 ≤ T5_33.heap.size := Nat.le_trans Z6_32 K6_33.1
    have ar6_33 := own_ak ar6_32 K6_33 (ninS (Ne.symm ne1) (ninS ne3 nin0))
    have sd6_33 := Sd6_33.trans sd6_32
    have hi2 : ¬ ((2 : Int32) < 0 ∨ crF.slots.size ≤ ((2 : Int32)).toNatClampNeg) := inb_of SrF ⟨by decide, by decide⟩
    have ha2 : crF.slots[((2 : Int32)).toNatClampNeg]? = some (.int (2 : Int32)) := by rw [show ((2 : Int32)).toNatClampNeg = 2 from by decide]; exact HrF 2 (by rw [eN]; decide)
    have hd2 : ¬ ((2 : Int32) < 0 ∨ cd6_33.slots.size ≤ ((2 : Int32)).toNatClampNeg) := inb_of sd6_33 ⟨by decide, by decide⟩
    have hc165_34 : ¬ ((3 : Int32) < (3 : Int32)) := (by decide)
    have hc177_34 : ¬ ((1 : Int32) = (0 : Int32)) := (by decide)
    obtain ⟨cq5_34, kq5_34, q5a_34, q5b_34, q5c_34⟩ := isOf hZ (rfl : T5_33.heap = _) Ex6_33
    obtain ⟨_, _, ⟨T5_34, L5_34, k5_34, n5_34⟩, -, X5_34, ⟨Lc5_34, hQ5_34, l5_34, y5_34, z5_34⟩, st5_34⟩ := X5_33.virtualBack hx (y := (⟨"com/example/assignor/assignor/NodeQueue", "poll", "()I"⟩ : MethodName)) (z := (⟨"com/example/assignor/assignor/NodeQueue", "poll", "()I"⟩ : MethodName)) hown (mvT hZ (hw _ (List.mem_of_getElem? (i := 35) rfl))) (mvT hZ (hw _ (List.mem_of_getElem? (i := 36) rfl))) (notFace_of_selects (args := #[]) (mvT hZ (hw _ (List.mem_of_getElem? (i := 38) rfl)))) (mvT hZ (hw _ (List.mem_of_getElem? (i := 38) rfl))) (mvT hZ (hw _ (List.mem_of_getElem? (i := 37) rfl))) (by decide) (backOf (W := 0) (rm6 l Z a0 hw [] b5_2 r (2 : Int32) (2 : Int32) crF (3 : Int32) (1 : Int32) d cd6_33 T5_33.heap n0 Z6_33 Fri6_33 Fhe6_33 ar6_33 hi2 ha2 SrF (by decide) (by decide) Ex6_33 g_b5_2 Fsi6_33 Fqu6_33 Ad6_33 hd2 gd ne2) hZ (hw _ (List.mem_of_getElem? (i := 39) rfl)) (hw _ (List.mem_of_getElem? (i := 2) rfl)) (by decide) (by decide)) q5a_34 q5c_34 (g := (mkF m 170 #[.val (.int p1), .val (.int p2), .val (.int p3), .val (.int p4), .val (.int (3 : Int32)), .val (.ref b5_2), .val (.int (1 : Int32)), .val (.int (1 : Int32))] [(.ref b5_2)])) rfl (by rw [hml]; rfl) (Steps.refl _) (argsL := []) (rest := []) (lenOf pd_3 rfl) rfl (by show 2 * 0 + _ ≤ _; exact Nat.le_of_eq rfl) (hb hby at_170) (fun _ _ => ⟨rfl, (rfl : T5_33.heap = _), (by decide : 0 + 1 + 2 ≤ _), (by decide : 0 + 4 + 8 ≤ _)⟩)
    dsimp only [Pt.U, Pt.locs, Pt.cells, Pt.slots] at X5_34 l5_34 y5_34 z5_34 st5_34 hQ5_34
    subst l5_34 y5_34 z5_34
    obtain ⟨rfl, N5q_34, K6_34, Ex6_34, Fri6_34, Fqu6_34, Fhe6_34, Fsi6_34, ⟨cd6_34, Ad6_34, Sd6_34⟩⟩ := hQ5_34
    have N5_34 := Fr.app N5_33 N5q_34
    have st_34p : ∀ target, Steps p.tables e below (T5_34.setTop (mkF m 193 #[.val (.int p1), .val (.int p2), .val (.int p3), .val (.int p4), .val (.int (3 : Int32)), .val (.ref b5_2), .val (.int (1 : Int32)), .val (.int (2 : Int32))] [])) target → Steps p.tables e below (T5_33.setTop (mkF m 162 #[.val (.int p1), .val (.int p2), .val (.int p3), .val (.int p4), .val (.int (3 : Int32)), .val (.ref b5_2), .val (.int (1 : Int32)), .val (.int (1 : Int32))] [])) target := by
      intro target kt
      show Steps p.tables e below (T5_33.setTop (mkF m 162 #[.val (.int p1), .val (.int p2), .val (.int p3), .val (.int p4), .val (.int (3 : Int32)), .val (.ref b5_2), .val (.int (1 : Int32)), .val (.int (1 : Int32))] [])) _
      refine XS.iload X5_33.here hx rfl (hb hby at_162) rfl ?_
      show Steps p.tables e below (T5_33.setTop (mkF m 164 #[.val (.int p1), .val (.int p2), .val (.int p3), .val (.int p4), .val (.int (3 : Int32)), .val (.ref b5_2), .val (.int (1 : Int32)), .val (.int (1 : Int32))] [(.int (3 : Int32))])) _
      refine XS.iconst X5_33.here hx rfl (hb hby at_164) ?_
      show Steps p.tables e below (T5_33.setTop (mkF m 165 #[.val (.int p1), .val (.int p2), .val (.int p3), .val (.int p4), .val (.int (3 : Int32)), .val (.ref b5_2), .val (.int (1 : Int32)), .val (.int (1 : Int32))] [(.int (3 : Int32)), (.int (3 : Int32))])) _
      refine XS.icmpNo X5_33.here hx rfl (hb hby at_165) rfl (flt hc165_34).1 ?_
      show Steps p.tables e below (T5_33.setTop (mkF m 168 #[.val (.int p1), .val (.int p2), .val (.int p3), .val (.int p4), .val (.int (3 : Int32)), .val (.ref b5_2), .val (.int (1 : Int32)), .val (.int (1 : Int32))] [])) _
      refine XS.aload X5_33.here hx rfl (hb hby at_168) rfl rfl ?_
      show Steps p.tables e below (T5_33.setTop (mkF m 170 #[.val (.int p1), .val (.int p2), .val (.int p3), .val (.int p4), .val (.int (3 : Int32)), .val (.ref b5_2), .val (.int (1 : Int32)), .val (.int (1 : Int32))] [(.ref b5_2)])) _
      refine st5_34.trans ?_
      show Steps p.tables e below (T5_34.setTop (mkF m 173 #[.val (.int p1), .val (.int p2), .val (.int p3), .val (.int p4), .val (.int (3 : Int32)), .val (.ref b5_2), .val (.int (1 : Int32)), .val (.int (1 : Int32))] [(.int (2 : Int32))])) _
      refine XS.istore X5_34.here hx rfl (hb hby at_173) rfl (l' := #[.val (.int p1), .val (.int p2), .val (.int p3), .val (.int p4), .val (.int (3 : Int32)), .val (.ref b5_2), .val (.int (1 : Int32)), .val (.int (2 : Int32))]) rfl ?_
      show Steps p.tables e below (T5_34.setTop (mkF m 175 #[.val (.int p1), .val (.int p2), .val (.int p3), .val (.int p4), .val (.int (3 : Int32)), .val (.ref b5_2), .val (.int (1 : Int32)), .val (.int (2 : Int32))] [])) _
      refine XS.iload X5_34.here hx rfl (hb hby at_175) rfl ?_
      show Steps p.tables e below (T5_34.setTop (mkF m 177 #[.val (.int p1), .val (.int p2), .val (.int p3), .val (.int p4), .val (.int (3 : Int32)), .val (.ref b5_2), .val (.int (1 : Int32)), .val (.int (2 : Int32))] [(.int (1 : Int32))])) _
      refine XS.ifNo X5_34.here hx rfl (hb hby at_177) rfl ((if0 _ _).trans (feq hc177_34).1) ?_
      show Steps p.tables e below (T5_34.setTop (mkF m 180 #[.val (.int p1), .val (.int p2), .val (.int p3), .val (.int p4), .val (.int (3 : Int32)), .val (.ref b5_2), .val (.int (1 : Int32)), .val (.int (2 : Int32))] [])) _
      refine XS.iload X5_34.here hx rfl (hb hby at_180) rfl ?_
      show Steps p.tables e below (T5_34.setTop (mkF m 182 #[.val (.int p1), .val (.int p2), .val (.int p3), .val (.int p4), .val (.int (3 : Int32)), .val (.ref b5_2), .val (.int (1 : Int32)), .val (.int (2 : Int32))] [(.int (2 : Int32))])) _
      refine XS.iconst X5_34.here hx rfl (hb hby at_182) ?_
      show Steps p.tables e below (T5_34.setTop (mkF m 183 #[.val (.int p1), .val (.int p2), .val (.int p3), .val (.int p4), .val (.int (3 : Int32)), .val (.ref b5_2), .val (.int (1 : Int32)), .val (.int (2 : Int32))] [(.int (2 : Int32)), (.int (2 : Int32))])) _
      refine XS.icmpNo X5_34.here hx rfl (hb hby at_183) rfl (teq ((by decide) : (2 : Int32) = (2 : Int32))).2 ?_
      show Steps p.tables e below (T5_34.setTop (mkF m 186 #[.val (.int p1), .val (.int p2), .val (.int p3), .val (.int p4), .val (.int (3 : Int32)), .val (.ref b5_2), .val (.int (1 : Int32)), .val (.int (2 : Int32))] [])) _
      refine XS.iconst X5_34.here hx rfl (hb hby at_186) ?_
      show Steps p.tables e below (T5_34.setTop (mkF m 187 #[.val (.int p1), .val (.int p2), .val (.int p3), .val (.int p4), .val (.int (3 : Int32)), .val (.ref b5_2), .val (.int (1 : Int32)), .val (.int (2 : Int32))] [(.int (1 : Int32))])) _
      refine XS.goto X5_34.here hx rfl (pc0 := 187) (pc' := 191) rfl (hb hby at_187) (by decide) (by decide) ?_
      show Steps p.tables e below (T5_34.setTop (mkF m 191 #[.val (.int p1), .val (.int p2), .val (.int p3), .val (.int p4), .val (.int (3 : Int32)), .val (.ref b5_2), .val (.int (1 : Int32)), .val (.int (2 : Int32))] [(.int (1 : Int32))])) _
      refine XS.istore X5_34.here hx rfl (hb hby at_191) rfl (l' := #[.val (.int p1), .val (.int p2), .val (.int p3), .val (.int p4), .val (.int (3 : Int32)), .val (.ref b5_2), .val (.int (1 : Int32)), .val (.int (2 : Int32))]) rfl ?_
      exact kt
    rw [show own_rem ((2 : Int32) + (1 : Int32)) (3 : Int32) = (0 : Int32) from by decide] at Fhe6_34
    rw [show ((1 : Int32) - (1 : Int32)) = (0 : Int32) from by decide] at Fsi6_34
    have Z6_34 : n0 ≤ T5_34.heap.size := Nat.le_trans Z6_33 K6_34.1
    have ar6_34 := own_ak ar6_33 K6_34 (ninS (Ne.symm ne1) (ninS ne3 nin0))
    have sd6_34 := Sd6_34.trans sd6_33
    have hc196_35 : (3 : Int32) < (4 : Int32) := (by decide)
    have st_35p : ∀ target, Steps p.tables e below (T5_34.setTop (mkF m 224 #[.val (.int p1), .val (.int p2), .val (.int p3), .val (.int p4), .val (.int (3 : Int32)), .val (.ref b5_2), .val (.int (1 : Int32)), .val (.int (2 : Int32))] [])) target → Steps p.tables e below (T5_34.setTop (mkF m 193 #[.val (.int p1), .val (.int p2), .val (.int p3), .val (.int p4), .val (.int (3 : Int32)), .val (.ref b5_2), .val (.int (1 : Int32)), .val (.int (2 : Int32))] [])) target := by
      intro target kt
      show Steps p.tables e below (T5_34.setTop (mkF m 193 #[.val (.int p1), .val (.int p2), .val (.int p3), .val (.int p4), .val (.int (3 : Int32)), .val (.ref b5_2), .val (.int (1 : Int32)), .val (.int (2 : Int32))] [])) _
      refine XS.iload X5_34.here hx rfl (hb hby at_193) rfl ?_
      show Steps p.tables e below (T5_34.setTop (mkF m 195 #[.val (.int p1), .val (.int p2), .val (.int p3), .val (.int p4), .val (.int (3 : Int32)), .val (.ref b5_2), .val (.int (1 : Int32)), .val (.int (2 : Int32))] [(.int (3 : Int32))])) _
      refine XS.iconst X5_34.here hx rfl (hb hby at_195) ?_
      show Steps p.tables e below (T5_34.setTop (mkF m 196 #[.val (.int p1), .val (.int p2), .val (.int p3), .val (.int p4), .val (.int (3 : Int32)), .val (.ref b5_2), .val (.int (1 : Int32)), .val (.int (2 : Int32))] [(.int (4 : Int32)), (.int (3 : Int32))])) _
      refine XS.icmpYes X5_34.here hx rfl (pc0 := 196) (pc' := 224) rfl (hb hby at_196) rfl (tlt hc196_35).1 (by decide) (by decide) ?_
      exact kt
    have hc233_36 : ¬ ((1 : Int32) = (0 : Int32)) := (by decide)
    obtain ⟨cq5_36, kq5_36, q5a_36, q5b_36, q5c_36⟩ := isOf hZ (rfl : T5_34.heap = _) Ex6_34
    obtain ⟨_, _, ⟨T5_36, L5_36, k5_36, n5_36⟩, -, X5_36, ⟨Lc5_36, hQ5_36, l5_36, y5_36, z5_36⟩, st5_36⟩ := X5_34.virtualBack hx (y := (⟨"com/example/assignor/assignor/NodeQueue", "isEmpty", "()Z"⟩ : MethodName)) (z := (⟨"com/example/assignor/assignor/NodeQueue", "isEmpty", "()Z"⟩ : MethodName)) hown (mvT hZ (hw _ (List.mem_of_getElem? (i := 24) rfl))) (mvT hZ (hw _ (List.mem_of_getElem? (i := 25) rfl))) (notFace_of_selects (args := #[]) (mvT hZ (hw _ (List.mem_of_getElem? (i := 27) rfl)))) (mvT hZ (hw _ (List.mem_of_getElem? (i := 27) rfl))) (mvT hZ (hw _ (List.mem_of_getElem? (i := 26) rfl))) (by decide) (backOf (W := 0) (rm4 l Z a0 hw [] b5_2 (0 : Int32) T5_34.heap n0 Z6_34 Fsi6_34) hZ (hw _ (List.mem_of_getElem? (i := 28) rfl)) (hw _ (List.mem_of_getElem? (i := 2) rfl)) (by decide) (by decide)) q5a_36 q5c_36 (g := (mkF m 226 #[.val (.int p1), .val (.int p2), .val (.int p3), .val (.int p4), .val (.int (3 : Int32)), .val (.ref b5_2), .val (.int (1 : Int32)), .val (.int (2 : Int32))] [(.ref b5_2)])) rfl (by rw [hml]; rfl) (Steps.refl _) (argsL := []) (rest := []) (lenOf pd_2 rfl) rfl (by show 2 * 0 + _ ≤ _; exact Nat.le_of_eq rfl) (hb hby at_226) (fun _ _ => ⟨rfl, (rfl : T5_34.heap = _), (by decide : 0 + 1 + 2 ≤ _), (by decide : 0 + 4 + 8 ≤ _)⟩)
    dsimp only [Pt.U, Pt.locs, Pt.cells, Pt.slots] at X5_36 l5_36 y5_36 z5_36 st5_36 hQ5_36
    subst l5_36 y5_36 z5_36
    obtain ⟨rfl, N5q_36, g4_36⟩ := hQ5_36
    have N5_36 := Fr.app N5_34 N5q_36
    have st_36p : ∀ target, Steps p.tables e below (T5_36.setTop (mkF m 246 #[.val (.int p1), .val (.int p2), .val (.int p3), .val (.int p4), .val (.int (3 : Int32)), .val (.ref b5_2), .val (.int (1 : Int32)), .val (.int (own_emp (0 : Int32)))] [(.int (1 : Int32))])) target → Steps p.tables e below (T5_34.setTop (mkF m 224 #[.val (.int p1), .val (.int p2), .val (.int p3), .val (.int p4), .val (.int (3 : Int32)), .val (.ref b5_2), .val (.int (1 : Int32)), .val (.int (2 : Int32))] [])) target := by
      intro target kt
      show Steps p.tables e below (T5_34.setTop (mkF m 224 #[.val (.int p1), .val (.int p2), .val (.int p3), .val (.int p4), .val (.int (3 : Int32)), .val (.ref b5_2), .val (.int (1 : Int32)), .val (.int (2 : Int32))] [])) _
      refine XS.aload X5_34.here hx rfl (hb hby at_224) rfl rfl ?_
      show Steps p.tables e below (T5_34.setTop (mkF m 226 #[.val (.int p1), .val (.int p2), .val (.int p3), .val (.int p4), .val (.int (3 : Int32)), .val (.ref b5_2), .val (.int (1 : Int32)), .val (.int (2 : Int32))] [(.ref b5_2)])) _
      refine st5_36.trans ?_
      show Steps p.tables e below (T5_36.setTop (mkF m 229 #[.val (.int p1), .val (.int p2), .val (.int p3), .val (.int p4), .val (.int (3 : Int32)), .val (.ref b5_2), .val (.int (1 : Int32)), .val (.int (2 : Int32))] [(.int (own_emp (0 : Int32)))])) _
      refine XS.istore X5_36.here hx rfl (hb hby at_229) rfl (l' := #[.val (.int p1), .val (.int p2), .val (.int p3), .val (.int p4), .val (.int (3 : Int32)), .val (.ref b5_2), .val (.int (1 : Int32)), .val (.int (own_emp (0 : Int32)))]) rfl ?_
      show Steps p.tables e below (T5_36.setTop (mkF m 231 #[.val (.int p1), .val (.int p2), .val (.int p3), .val (.int p4), .val (.int (3 : Int32)), .val (.ref b5_2), .val (.int (1 : Int32)), .val (.int (own_emp (0 : Int32)))] [])) _
      refine XS.iload X5_36.here hx rfl (hb hby at_231) rfl ?_
      show Steps p.tables e below (T5_36.setTop (mkF m 233 #[.val (.int p1), .val (.int p2), .val (.int p3), .val (.int p4), .val (.int (3 : Int32)), .val (.ref b5_2), .val (.int (1 : Int32)), .val (.int (own_emp (0 : Int32)))] [(.int (1 : Int32))])) _
      refine XS.ifNo X5_36.here hx rfl (hb hby at_233) rfl ((if0 _ _).trans (feq hc233_36).1) ?_
      show Steps p.tables e below (T5_36.setTop (mkF m 236 #[.val (.int p1), .val (.int p2), .val (.int p3), .val (.int p4), .val (.int (3 : Int32)), .val (.ref b5_2), .val (.int (1 : Int32)), .val (.int (own_emp (0 : Int32)))] [])) _
      refine XS.iload X5_36.here hx rfl (hb hby at_236) rfl ?_
      show Steps p.tables e below (T5_36.setTop (mkF m 238 #[.val (.int p1), .val (.int p2), .val (.int p3), .val (.int p4), .val (.int (3 : Int32)), .val (.ref b5_2), .val (.int (1 : Int32)), .val (.int (own_emp (0 : Int32)))] [(.int (own_emp (0 : Int32)))])) _
      refine XS.ifNo X5_36.here hx rfl (hb hby at_238) rfl ((if0 _ _).trans (feq ((by decide) : ¬ ((own_emp (0 : Int32)) = (0 : Int32)))).1) ?_
      show Steps p.tables e below (T5_36.setTop (mkF m 241 #[.val (.int p1), .val (.int p2), .val (.int p3), .val (.int p4), .val (.int (3 : Int32)), .val (.ref b5_2), .val (.int (1 : Int32)), .val (.int (own_emp (0 : Int32)))] [])) _
      refine XS.iconst X5_36.here hx rfl (hb hby at_241) ?_
      show Steps p.tables e below (T5_36.setTop (mkF m 242 #[.val (.int p1), .val (.int p2), .val (.int p3), .val (.int p4), .val (.int (3 : Int32)), .val (.ref b5_2), .val (.int (1 : Int32)), .val (.int (own_emp (0 : Int32)))] [(.int (1 : Int32))])) _
      refine XS.goto X5_36.here hx rfl (pc0 := 242) (pc' := 246) rfl (hb hby at_242) (by decide) (by decide) ?_
      exact kt
    obtain ⟨fs, hr, hrun, hended, hW, hsame⟩ := X5_36.leave (v := some (.int (1 : Int32))) (fun h => by rw [Bd.returns] at h; cases h)
    refine ⟨_, _, pre0 _ ?_, hrun, hended, _, _, rfl, ?_, ⟨_, rfl⟩, hW, hsame.mono (by decide) (by decide)⟩
    · show Steps p.tables e below (s₁.setTop (mkF m 0 #[.val (.int p1), .val (.int p2), .val (.int p3), .val (.int p4), .unset, .unset, .unset, .unset] [])) _
      refine st_1p _ ?_
      refine st_2p _ ?_
      refine stP _ ?_
      refine st_8p _ ?_
      refine st_30p _ ?_
      refine st_31p _ ?_
      refine st_32p _ ?_
      refine st_33p _ ?_
      refine st_34p _ ?_
      refine st_35p _ ?_
      refine st_36p _ ?_
      exact retN X5_36 hx (t := .boolean) Bd.returns (by simp) (hb hby at_246) hr
    · show Q0 Z p1 p2 p3 p4 h0 n0 _ T5_36.heap _
      exact ⟨rfl, N5_36⟩
  · have eN : (4 : Int32).toNatClampNeg = 4 := by decide
    have hc66_37 : ¬ ((4 : Int32) = (0 : Int32)) := (by decide)
    obtain ⟨cq5_37, kq5_37, q5a_37, q5b_37, q5c_37⟩ := isOf hZ (rfl : T5_8.heap = _) ExF
    obtain ⟨_, _, ⟨T5_37, L5_37, k5_37, n5_37⟩, -, X5_37, ⟨Lc5_37, hQ5_37, l5_37, y5_37, z5_37⟩, st5_37⟩ := X5_8.virtualBack hx (y := (⟨"com/example/assignor/assignor/NodeQueue", "isEmpty", "()Z"⟩ : MethodName)) (z := (⟨"com/example/assignor/assignor/NodeQueue", "isEmpty", "()Z"⟩ : MethodName)) hown (mvT hZ (hw _ (List.mem_of_getElem? (i := 24) rfl))) (mvT hZ (hw _ (List.mem_of_getElem? (i := 25) rfl))) (notFace_of_selects (args := #[]) (mvT hZ (hw _ (List.mem_of_getElem? (i := 27) rfl)))) (mvT hZ (hw _ (List.mem_of_getElem? (i := 27) rfl))) (mvT hZ (hw _ (List.mem_of_getElem? (i := 26) rfl))) (by decide) (backOf (W := 0) (rm4 l Z a0 hw [] b5_2 (4 : Int32) T5_8.heap n0 ZF FsiF) hZ (hw _ (List.mem_of_getElem? (i := 28) rfl)) (hw _ (List.mem_of_getElem? (i := 2) rfl)) (by decide) (by decide)) q5a_37 q5c_37 (g := (mkF m 61 #[.val (.int p1), .val (.int p2), .val (.int p3), .val (.int p4), .val (.int (4 : Int32)), .val (.ref b5_2), .unset, .unset] [(.ref b5_2)])) rfl (by rw [hml]; rfl) (Steps.refl _) (argsL := []) (rest := []) (lenOf pd_2 rfl) rfl (by show 2 * 0 + _ ≤ _; exact Nat.le_of_eq rfl) (hb hby at_61) (fun _ _ => ⟨rfl, (rfl : T5_8.heap = _), (by decide : 0 + 1 + 2 ≤ _), (by decide : 0 + 4 + 8 ≤ _)⟩)
    dsimp only [Pt.U, Pt.locs, Pt.cells, Pt.slots] at X5_37 l5_37 y5_37 z5_37 st5_37 hQ5_37
    subst l5_37 y5_37 z5_37
    obtain ⟨rfl, N5q_37, g4_37⟩ := hQ5_37
    have N5_37 := Fr.app N5_8 N5q_37
    have st_37p : ∀ target, Steps p.tables e below (T5_37.setTop (mkF m 84 #[.val (.int p1), .val (.int p2), .val (.int p3), .val (.int p4), .val (.int (4 : Int32)), .val (.ref b5_2), .val (.int (1 : Int32)), .unset] [])) target → Steps p.tables e below (T5_8.setTop (mkF m 59 #[.val (.int p1), .val (.int p2), .val (.int p3), .val (.int p4), .val (.int (4 : Int32)), .val (.ref b5_2), .unset, .unset] [])) target := by
      intro target kt
      show Steps p.tables e below (T5_8.setTop (mkF m 59 #[.val (.int p1), .val (.int p2), .val (.int p3), .val (.int p4), .val (.int (4 : Int32)), .val (.ref b5_2), .unset, .unset] [])) _
      refine XS.aload X5_8.here hx rfl (hb hby at_59) rfl rfl ?_
      show Steps p.tables e below (T5_8.setTop (mkF m 61 #[.val (.int p1), .val (.int p2), .val (.int p3), .val (.int p4), .val (.int (4 : Int32)), .val (.ref b5_2), .unset, .unset] [(.ref b5_2)])) _
      refine st5_37.trans ?_
      show Steps p.tables e below (T5_37.setTop (mkF m 64 #[.val (.int p1), .val (.int p2), .val (.int p3), .val (.int p4), .val (.int (4 : Int32)), .val (.ref b5_2), .unset, .unset] [(.int (own_emp (4 : Int32)))])) _
      refine XS.iload X5_37.here hx rfl (hb hby at_64) rfl ?_
      show Steps p.tables e below (T5_37.setTop (mkF m 66 #[.val (.int p1), .val (.int p2), .val (.int p3), .val (.int p4), .val (.int (4 : Int32)), .val (.ref b5_2), .unset, .unset] [(.int (4 : Int32)), (.int (own_emp (4 : Int32)))])) _
      refine XS.ifYes X5_37.here hx rfl (pc0 := 66) (pc' := 73) rfl (hb hby at_66) rfl ((if0 _ _).trans (feq hc66_37).2) (by decide) (by decide) ?_
      show Steps p.tables e below (T5_37.setTop (mkF m 73 #[.val (.int p1), .val (.int p2), .val (.int p3), .val (.int p4), .val (.int (4 : Int32)), .val (.ref b5_2), .unset, .unset] [(.int (own_emp (4 : Int32)))])) _
      refine XS.iconst X5_37.here hx rfl (hb hby at_73) ?_
      show Steps p.tables e below (T5_37.setTop (mkF m 74 #[.val (.int p1), .val (.int p2), .val (.int p3), .val (.int p4), .val (.int (4 : Int32)), .val (.ref b5_2), .unset, .unset] [(.int (0 : Int32)), (.int (own_emp (4 : Int32)))])) _
      refine XS.icmpNo X5_37.here hx rfl (hb hby at_74) rfl (teq ((by decide) : (own_emp (4 : Int32)) = (0 : Int32))).2 ?_
      show Steps p.tables e below (T5_37.setTop (mkF m 77 #[.val (.int p1), .val (.int p2), .val (.int p3), .val (.int p4), .val (.int (4 : Int32)), .val (.ref b5_2), .unset, .unset] [])) _
      refine XS.iconst X5_37.here hx rfl (hb hby at_77) ?_
      show Steps p.tables e below (T5_37.setTop (mkF m 78 #[.val (.int p1), .val (.int p2), .val (.int p3), .val (.int p4), .val (.int (4 : Int32)), .val (.ref b5_2), .unset, .unset] [(.int (1 : Int32))])) _
      refine XS.goto X5_37.here hx rfl (pc0 := 78) (pc' := 82) rfl (hb hby at_78) (by decide) (by decide) ?_
      show Steps p.tables e below (T5_37.setTop (mkF m 82 #[.val (.int p1), .val (.int p2), .val (.int p3), .val (.int p4), .val (.int (4 : Int32)), .val (.ref b5_2), .unset, .unset] [(.int (1 : Int32))])) _
      refine XS.istore X5_37.here hx rfl (hb hby at_82) rfl (l' := #[.val (.int p1), .val (.int p2), .val (.int p3), .val (.int p4), .val (.int (4 : Int32)), .val (.ref b5_2), .val (.int (1 : Int32)), .unset]) rfl ?_
      exact kt
    have hdd := own_rem_in p4 (y := (4 : Int32)) (by decide)
    have ddl : (own_rem (p4 &&& (2147483647 : Int32)) (4 : Int32)) < (4 : Int32) := by rw [Int32.lt_iff_toInt_lt]; exact hdd.2
    have hindd : ¬ ((own_rem (p4 &&& (2147483647 : Int32)) (4 : Int32)) < 0 ∨ cdF.slots.size ≤ (own_rem (p4 &&& (2147483647 : Int32)) (4 : Int32)).toNatClampNeg) := inb_of SdF ⟨own_nn hdd.1, ddl⟩
    have hc86_38 : (0 : Int32) < (4 : Int32) := (by decide)
    have hy97_38 : (4 : Int32) ≠ 0 := (by decide)
    obtain ⟨cq5_38, kq5_38, q5a_38, q5b_38, q5c_38⟩ := isOf hZ g4_37 ExF
    obtain ⟨_, _, ⟨T5_38, L5_38, k5_38, n5_38⟩, -, X5_38, ⟨Lc5_38, hQ5_38, l5_38, y5_38, z5_38⟩, st5_38⟩ := X5_37.virtualBack hx (y := (⟨"com/example/assignor/assignor/NodeQueue", "offer", "(I)V"⟩ : MethodName)) (z := (⟨"com/example/assignor/assignor/NodeQueue", "offer", "(I)V"⟩ : MethodName)) hown (mvT hZ (hw _ (List.mem_of_getElem? (i := 30) rfl))) (mvT hZ (hw _ (List.mem_of_getElem? (i := 31) rfl))) (notFace_of_selects (args := #[]) (mvT hZ (hw _ (List.mem_of_getElem? (i := 33) rfl)))) (mvT hZ (hw _ (List.mem_of_getElem? (i := 33) rfl))) (mvT hZ (hw _ (List.mem_of_getElem? (i := 32) rfl))) (by decide) (backOf (W := 0) (rm5n l Z a0 hw [] b5_2 (own_rem (p4 &&& (2147483647 : Int32)) (4 : Int32)) d (1 : Int32) cdF T5_8.heap n0 ZF FquF AdF hindd (HdF _ (by rw [← SdF]; exact Nat.lt_of_not_le fun u => hindd (Or.inr u))) (by decide)) hZ (hw _ (List.mem_of_getElem? (i := 34) rfl)) (hw _ (List.mem_of_getElem? (i := 2) rfl)) (by decide) (by decide)) q5a_38 q5c_38 (g := (mkF m 98 #[.val (.int p1), .val (.int p2), .val (.int p3), .val (.int p4), .val (.int (4 : Int32)), .val (.ref b5_2), .val (.int (1 : Int32)), .unset] [(.int (own_rem (p4 &&& (2147483647 : Int32)) (4 : Int32))), (.ref b5_2)])) rfl (by rw [hml]; rfl) (Steps.refl _) (argsL := [(.int (own_rem (p4 &&& (2147483647 : Int32)) (4 : Int32)))]) (rest := []) (lenOf pd_0 rfl) rfl (by show 2 * 0 + _ ≤ _; exact Nat.le_of_eq rfl) (hb hby at_98) (fun _ _ => ⟨rfl, g4_37, (by decide : 0 + 1 + 2 ≤ _), (by decide : 0 + 4 + 8 ≤ _)⟩)
    dsimp only [Pt.U, Pt.locs, Pt.cells, Pt.slots] at X5_38 l5_38 y5_38 z5_38 st5_38 hQ5_38
    subst l5_38 y5_38 z5_38
    obtain ⟨rfl, N5q_38, g5_38⟩ := hQ5_38
    have N5_38 := Fr.app N5_37 N5q_38
    have st_38p : ∀ target, Steps p.tables e below (T5_38.setTop (mkF m 101 #[.val (.int p1), .val (.int p2), .val (.int p3), .val (.int p4), .val (.int (4 : Int32)), .val (.ref b5_2), .val (.int (1 : Int32)), .unset] [])) target → Steps p.tables e below (T5_37.setTop (mkF m 84 #[.val (.int p1), .val (.int p2), .val (.int p3), .val (.int p4), .val (.int (4 : Int32)), .val (.ref b5_2), .val (.int (1 : Int32)), .unset] [])) target := by
      intro target kt
      show Steps p.tables e below (T5_37.setTop (mkF m 84 #[.val (.int p1), .val (.int p2), .val (.int p3), .val (.int p4), .val (.int (4 : Int32)), .val (.ref b5_2), .val (.int (1 : Int32)), .unset] [])) _
      refine XS.iload X5_37.here hx rfl (hb hby at_84) rfl ?_
      show Steps p.tables e below (T5_37.setTop (mkF m 86 #[.val (.int p1), .val (.int p2), .val (.int p3), .val (.int p4), .val (.int (4 : Int32)), .val (.ref b5_2), .val (.int (1 : Int32)), .unset] [(.int (4 : Int32))])) _
      refine XS.ifNo X5_37.here hx rfl (hb hby at_86) rfl ((if0 _ _).trans (tlt hc86_38).2.2.2) ?_
      show Steps p.tables e below (T5_37.setTop (mkF m 89 #[.val (.int p1), .val (.int p2), .val (.int p3), .val (.int p4), .val (.int (4 : Int32)), .val (.ref b5_2), .val (.int (1 : Int32)), .unset] [])) _
      refine XS.aload X5_37.here hx rfl (hb hby at_89) rfl rfl ?_
      show Steps p.tables e below (T5_37.setTop (mkF m 91 #[.val (.int p1), .val (.int p2), .val (.int p3), .val (.int p4), .val (.int (4 : Int32)), .val (.ref b5_2), .val (.int (1 : Int32)), .unset] [(.ref b5_2)])) _
      refine XS.iloadN X5_37.here hx rfl (hb hby at_91) rfl ?_
      show Steps p.tables e below (T5_37.setTop (mkF m 92 #[.val (.int p1), .val (.int p2), .val (.int p3), .val (.int p4), .val (.int (4 : Int32)), .val (.ref b5_2), .val (.int (1 : Int32)), .unset] [(.int p4), (.ref b5_2)])) _
      refine X5_37.ldcInt hx hown (mvT hZ (hw _ (List.mem_of_getElem? (i := 29) rfl))) (g := (mkF m 92 #[.val (.int p1), .val (.int p2), .val (.int p3), .val (.int p4), .val (.int (4 : Int32)), .val (.ref b5_2), .val (.int (1 : Int32)), .unset] [(.int p4), (.ref b5_2)])) rfl (hb hby at_92) _ ?_
      show Steps p.tables e below (T5_37.setTop (mkF m 94 #[.val (.int p1), .val (.int p2), .val (.int p3), .val (.int p4), .val (.int (4 : Int32)), .val (.ref b5_2), .val (.int (1 : Int32)), .unset] [(.int (2147483647 : Int32)), (.int p4), (.ref b5_2)])) _
      refine XS.iand X5_37.here hx rfl (hb hby at_94) rfl ?_
      show Steps p.tables e below (T5_37.setTop (mkF m 95 #[.val (.int p1), .val (.int p2), .val (.int p3), .val (.int p4), .val (.int (4 : Int32)), .val (.ref b5_2), .val (.int (1 : Int32)), .unset] [(.int (p4 &&& (2147483647 : Int32))), (.ref b5_2)])) _
      refine XS.iload X5_37.here hx rfl (hb hby at_95) rfl ?_
      show Steps p.tables e below (T5_37.setTop (mkF m 97 #[.val (.int p1), .val (.int p2), .val (.int p3), .val (.int p4), .val (.int (4 : Int32)), .val (.ref b5_2), .val (.int (1 : Int32)), .unset] [(.int (4 : Int32)), (.int (p4 &&& (2147483647 : Int32))), (.ref b5_2)])) _
      refine XS.irem X5_37.here hx rfl (hb hby at_97) rfl hy97_38 ?_
      show Steps p.tables e below (T5_37.setTop (mkF m 98 #[.val (.int p1), .val (.int p2), .val (.int p3), .val (.int p4), .val (.int (4 : Int32)), .val (.ref b5_2), .val (.int (1 : Int32)), .unset] [(.int (own_rem (p4 &&& (2147483647 : Int32)) (4 : Int32))), (.ref b5_2)])) _
      refine st5_38.trans ?_
      exact kt
    have hi0 : ¬ ((0 : Int32) < 0 ∨ crF.slots.size ≤ ((0 : Int32)).toNatClampNeg) := inb_of SrF ⟨by decide, by decide⟩
    have ha0 : crF.slots[((0 : Int32)).toNatClampNeg]? = some (.int (0 : Int32)) := by rw [show ((0 : Int32)).toNatClampNeg = 0 from by decide]; exact HrF 0 (by rw [eN]; decide)
    have hd0 : ¬ ((0 : Int32) < 0 ∨ cdF.slots.size ≤ ((0 : Int32)).toNatClampNeg) := inb_of SdF ⟨by decide, by decide⟩
    have hc104_39 : ¬ ((4 : Int32) < (1 : Int32)) := (by decide)
    have hc116_39 : ¬ ((1 : Int32) = (0 : Int32)) := (by decide)
    obtain ⟨cq5_39, kq5_39, q5a_39, q5b_39, q5c_39⟩ := isOf hZ g5_38 ExF
    obtain ⟨_, _, ⟨T5_39, L5_39, k5_39, n5_39⟩, -, X5_39, ⟨Lc5_39, hQ5_39, l5_39, y5_39, z5_39⟩, st5_39⟩ := X5_38.virtualBack hx (y := (⟨"com/example/assignor/assignor/NodeQueue", "poll", "()I"⟩ : MethodName)) (z := (⟨"com/example/assignor/assignor/NodeQueue", "poll", "()I"⟩ : MethodName)) hown (mvT hZ (hw _ (List.mem_of_getElem? (i := 35) rfl))) (mvT hZ (hw _ (List.mem_of_getElem? (i := 36) rfl))) (notFace_of_selects (args := #[]) (mvT hZ (hw _ (List.mem_of_getElem? (i := 38) rfl)))) (mvT hZ (hw _ (List.mem_of_getElem? (i := 38) rfl))) (mvT hZ (hw _ (List.mem_of_getElem? (i := 37) rfl))) (by decide) (backOf (W := 0) (rm6 l Z a0 hw [] b5_2 r (0 : Int32) (0 : Int32) crF (4 : Int32) (4 : Int32) d cdF T5_8.heap n0 ZF FriF FheF ArF hi0 ha0 SrF (by decide) (by decide) ExF g_b5_2 FsiF FquF AdF hd0 gd ne2) hZ (hw _ (List.mem_of_getElem? (i := 39) rfl)) (hw _ (List.mem_of_getElem? (i := 2) rfl)) (by decide) (by decide)) q5a_39 q5c_39 (g := (mkF m 109 #[.val (.int p1), .val (.int p2), .val (.int p3), .val (.int p4), .val (.int (4 : Int32)), .val (.ref b5_2), .val (.int (1 : Int32)), .unset] [(.ref b5_2)])) rfl (by rw [hml]; rfl) (Steps.refl _) (argsL := []) (rest := []) (lenOf pd_3 rfl) rfl (by show 2 * 0 + _ ≤ _; exact Nat.le_of_eq rfl) (hb hby at_109) (fun _ _ => ⟨rfl, g5_38, (by decide : 0 + 1 + 2 ≤ _), (by decide : 0 + 4 + 8 ≤ _)⟩)
    dsimp only [Pt.U, Pt.locs, Pt.cells, Pt.slots] at X5_39 l5_39 y5_39 z5_39 st5_39 hQ5_39
    subst l5_39 y5_39 z5_39
    obtain ⟨rfl, N5q_39, K6_39, Ex6_39, Fri6_39, Fqu6_39, Fhe6_39, Fsi6_39, ⟨cd6_39, Ad6_39, Sd6_39⟩⟩ := hQ5_39
    have N5_39 := Fr.app N5_38 N5q_39
    have st_39p : ∀ target, Steps p.tables e below (T5_39.setTop (mkF m 131 #[.val (.int p1), .val (.int p2), .val (.int p3), .val (.int p4), .val (.int (4 : Int32)), .val (.ref b5_2), .val (.int (1 : Int32)), .val (.int (0 : Int32))] [])) target → Steps p.tables e below (T5_38.setTop (mkF m 101 #[.val (.int p1), .val (.int p2), .val (.int p3), .val (.int p4), .val (.int (4 : Int32)), .val (.ref b5_2), .val (.int (1 : Int32)), .unset] [])) target := by
      intro target kt
      show Steps p.tables e below (T5_38.setTop (mkF m 101 #[.val (.int p1), .val (.int p2), .val (.int p3), .val (.int p4), .val (.int (4 : Int32)), .val (.ref b5_2), .val (.int (1 : Int32)), .unset] [])) _
      refine XS.iload X5_38.here hx rfl (hb hby at_101) rfl ?_
      show Steps p.tables e below (T5_38.setTop (mkF m 103 #[.val (.int p1), .val (.int p2), .val (.int p3), .val (.int p4), .val (.int (4 : Int32)), .val (.ref b5_2), .val (.int (1 : Int32)), .unset] [(.int (4 : Int32))])) _
      refine XS.iconst X5_38.here hx rfl (hb hby at_103) ?_
      show Steps p.tables e below (T5_38.setTop (mkF m 104 #[.val (.int p1), .val (.int p2), .val (.int p3), .val (.int p4), .val (.int (4 : Int32)), .val (.ref b5_2), .val (.int (1 : Int32)), .unset] [(.int (1 : Int32)), (.int (4 : Int32))])) _
      refine XS.icmpNo X5_38.here hx rfl (hb hby at_104) rfl (flt hc104_39).1 ?_
      show Steps p.tables e below (T5_38.setTop (mkF m 107 #[.val (.int p1), .val (.int p2), .val (.int p3), .val (.int p4), .val (.int (4 : Int32)), .val (.ref b5_2), .val (.int (1 : Int32)), .unset] [])) _
      refine XS.aload X5_38.here hx rfl (hb hby at_107) rfl rfl ?_
      show Steps p.tables e below (T5_38.setTop (mkF m 109 #[.val (.int p1), .val (.int p2), .val (.int p3), .val (.int p4), .val (.int (4 : Int32)), .val (.ref b5_2), .val (.int (1 : Int32)), .unset] [(.ref b5_2)])) _
      refine st5_39.trans ?_
      show Steps p.tables e below (T5_39.setTop (mkF m 112 #[.val (.int p1), .val (.int p2), .val (.int p3), .val (.int p4), .val (.int (4 : Int32)), .val (.ref b5_2), .val (.int (1 : Int32)), .unset] [(.int (0 : Int32))])) _
      refine XS.istore X5_39.here hx rfl (hb hby at_112) rfl (l' := #[.val (.int p1), .val (.int p2), .val (.int p3), .val (.int p4), .val (.int (4 : Int32)), .val (.ref b5_2), .val (.int (1 : Int32)), .val (.int (0 : Int32))]) rfl ?_
      show Steps p.tables e below (T5_39.setTop (mkF m 114 #[.val (.int p1), .val (.int p2), .val (.int p3), .val (.int p4), .val (.int (4 : Int32)), .val (.ref b5_2), .val (.int (1 : Int32)), .val (.int (0 : Int32))] [])) _
      refine XS.iload X5_39.here hx rfl (hb hby at_114) rfl ?_
      show Steps p.tables e below (T5_39.setTop (mkF m 116 #[.val (.int p1), .val (.int p2), .val (.int p3), .val (.int p4), .val (.int (4 : Int32)), .val (.ref b5_2), .val (.int (1 : Int32)), .val (.int (0 : Int32))] [(.int (1 : Int32))])) _
      refine XS.ifNo X5_39.here hx rfl (hb hby at_116) rfl ((if0 _ _).trans (feq hc116_39).1) ?_
      show Steps p.tables e below (T5_39.setTop (mkF m 119 #[.val (.int p1), .val (.int p2), .val (.int p3), .val (.int p4), .val (.int (4 : Int32)), .val (.ref b5_2), .val (.int (1 : Int32)), .val (.int (0 : Int32))] [])) _
      refine XS.iload X5_39.here hx rfl (hb hby at_119) rfl ?_
      show Steps p.tables e below (T5_39.setTop (mkF m 121 #[.val (.int p1), .val (.int p2), .val (.int p3), .val (.int p4), .val (.int (4 : Int32)), .val (.ref b5_2), .val (.int (1 : Int32)), .val (.int (0 : Int32))] [(.int (0 : Int32))])) _
      refine XS.ifNo X5_39.here hx rfl (hb hby at_121) rfl ((if0 _ _).trans (teq ((by decide) : (0 : Int32) = (0 : Int32))).2) ?_
      show Steps p.tables e below (T5_39.setTop (mkF m 124 #[.val (.int p1), .val (.int p2), .val (.int p3), .val (.int p4), .val (.int (4 : Int32)), .val (.ref b5_2), .val (.int (1 : Int32)), .val (.int (0 : Int32))] [])) _
      refine XS.iconst X5_39.here hx rfl (hb hby at_124) ?_
      show Steps p.tables e below (T5_39.setTop (mkF m 125 #[.val (.int p1), .val (.int p2), .val (.int p3), .val (.int p4), .val (.int (4 : Int32)), .val (.ref b5_2), .val (.int (1 : Int32)), .val (.int (0 : Int32))] [(.int (1 : Int32))])) _
      refine XS.goto X5_39.here hx rfl (pc0 := 125) (pc' := 129) rfl (hb hby at_125) (by decide) (by decide) ?_
      show Steps p.tables e below (T5_39.setTop (mkF m 129 #[.val (.int p1), .val (.int p2), .val (.int p3), .val (.int p4), .val (.int (4 : Int32)), .val (.ref b5_2), .val (.int (1 : Int32)), .val (.int (0 : Int32))] [(.int (1 : Int32))])) _
      refine XS.istore X5_39.here hx rfl (hb hby at_129) rfl (l' := #[.val (.int p1), .val (.int p2), .val (.int p3), .val (.int p4), .val (.int (4 : Int32)), .val (.ref b5_2), .val (.int (1 : Int32)), .val (.int (0 : Int32))]) rfl ?_
      exact kt
    rw [show own_rem ((0 : Int32) + (1 : Int32)) (4 : Int32) = (1 : Int32) from by decide] at Fhe6_39
    rw [show ((4 : Int32) - (1 : Int32)) = (3 : Int32) from by decide] at Fsi6_39
    have Z6_39 : n0 ≤ T5_39.heap.size := Nat.le_trans ZF K6_39.1
    have ar6_39 := own_ak ArF K6_39 (ninS (Ne.symm ne1) (ninS ne3 nin0))
    have sd6_39 := Sd6_39.trans SdF
    have hi1 : ¬ ((1 : Int32) < 0 ∨ crF.slots.size ≤ ((1 : Int32)).toNatClampNeg) := inb_of SrF ⟨by decide, by decide⟩
    have ha1 : crF.slots[((1 : Int32)).toNatClampNeg]? = some (.int (1 : Int32)) := by rw [show ((1 : Int32)).toNatClampNeg = 1 from by decide]; exact HrF 1 (by rw [eN]; decide)
    have hd1 : ¬ ((1 : Int32) < 0 ∨ cd6_39.slots.size ≤ ((1 : Int32)).toNatClampNeg) := inb_of sd6_39 ⟨by decide, by decide⟩
    have hc134_40 : ¬ ((4 : Int32) < (2 : Int32)) := (by decide)
    have hc146_40 : ¬ ((1 : Int32) = (0 : Int32)) := (by decide)
    obtain ⟨cq5_40, kq5_40, q5a_40, q5b_40, q5c_40⟩ := isOf hZ (rfl : T5_39.heap = _) Ex6_39
    obtain ⟨_, _, ⟨T5_40, L5_40, k5_40, n5_40⟩, -, X5_40, ⟨Lc5_40, hQ5_40, l5_40, y5_40, z5_40⟩, st5_40⟩ := X5_39.virtualBack hx (y := (⟨"com/example/assignor/assignor/NodeQueue", "poll", "()I"⟩ : MethodName)) (z := (⟨"com/example/assignor/assignor/NodeQueue", "poll", "()I"⟩ : MethodName)) hown (mvT hZ (hw _ (List.mem_of_getElem? (i := 35) rfl))) (mvT hZ (hw _ (List.mem_of_getElem? (i := 36) rfl))) (notFace_of_selects (args := #[]) (mvT hZ (hw _ (List.mem_of_getElem? (i := 38) rfl)))) (mvT hZ (hw _ (List.mem_of_getElem? (i := 38) rfl))) (mvT hZ (hw _ (List.mem_of_getElem? (i := 37) rfl))) (by decide) (backOf (W := 0) (rm6 l Z a0 hw [] b5_2 r (1 : Int32) (1 : Int32) crF (4 : Int32) (3 : Int32) d cd6_39 T5_39.heap n0 Z6_39 Fri6_39 Fhe6_39 ar6_39 hi1 ha1 SrF (by decide) (by decide) Ex6_39 g_b5_2 Fsi6_39 Fqu6_39 Ad6_39 hd1 gd ne2) hZ (hw _ (List.mem_of_getElem? (i := 39) rfl)) (hw _ (List.mem_of_getElem? (i := 2) rfl)) (by decide) (by decide)) q5a_40 q5c_40 (g := (mkF m 139 #[.val (.int p1), .val (.int p2), .val (.int p3), .val (.int p4), .val (.int (4 : Int32)), .val (.ref b5_2), .val (.int (1 : Int32)), .val (.int (0 : Int32))] [(.ref b5_2)])) rfl (by rw [hml]; rfl) (Steps.refl _) (argsL := []) (rest := []) (lenOf pd_3 rfl) rfl (by show 2 * 0 + _ ≤ _; exact Nat.le_of_eq rfl) (hb hby at_139) (fun _ _ => ⟨rfl, (rfl : T5_39.heap = _), (by decide : 0 + 1 + 2 ≤ _), (by decide : 0 + 4 + 8 ≤ _)⟩)
    dsimp only [Pt.U, Pt.locs, Pt.cells, Pt.slots] at X5_40 l5_40 y5_40 z5_40 st5_40 hQ5_40
    subst l5_40 y5_40 z5_40
    obtain ⟨rfl, N5q_40, K6_40, Ex6_40, Fri6_40, Fqu6_40, Fhe6_40, Fsi6_40, ⟨cd6_40, Ad6_40, Sd6_40⟩⟩ := hQ5_40
    have N5_40 := Fr.app N5_39 N5q_40
    have st_40p : ∀ target, Steps p.tables e below (T5_40.setTop (mkF m 162 #[.val (.int p1), .val (.int p2), .val (.int p3), .val (.int p4), .val (.int (4 : Int32)), .val (.ref b5_2), .val (.int (1 : Int32)), .val (.int (1 : Int32))] [])) target → Steps p.tables e below (T5_39.setTop (mkF m 131 #[.val (.int p1), .val (.int p2), .val (.int p3), .val (.int p4), .val (.int (4 : Int32)), .val (.ref b5_2), .val (.int (1 : Int32)), .val (.int (0 : Int32))] [])) target := by
      intro target kt
      show Steps p.tables e below (T5_39.setTop (mkF m 131 #[.val (.int p1), .val (.int p2), .val (.int p3), .val (.int p4), .val (.int (4 : Int32)), .val (.ref b5_2), .val (.int (1 : Int32)), .val (.int (0 : Int32))] [])) _
      refine XS.iload X5_39.here hx rfl (hb hby at_131) rfl ?_
      show Steps p.tables e below (T5_39.setTop (mkF m 133 #[.val (.int p1), .val (.int p2), .val (.int p3), .val (.int p4), .val (.int (4 : Int32)), .val (.ref b5_2), .val (.int (1 : Int32)), .val (.int (0 : Int32))] [(.int (4 : Int32))])) _
      refine XS.iconst X5_39.here hx rfl (hb hby at_133) ?_
      show Steps p.tables e below (T5_39.setTop (mkF m 134 #[.val (.int p1), .val (.int p2), .val (.int p3), .val (.int p4), .val (.int (4 : Int32)), .val (.ref b5_2), .val (.int (1 : Int32)), .val (.int (0 : Int32))] [(.int (2 : Int32)), (.int (4 : Int32))])) _
      refine XS.icmpNo X5_39.here hx rfl (hb hby at_134) rfl (flt hc134_40).1 ?_
      show Steps p.tables e below (T5_39.setTop (mkF m 137 #[.val (.int p1), .val (.int p2), .val (.int p3), .val (.int p4), .val (.int (4 : Int32)), .val (.ref b5_2), .val (.int (1 : Int32)), .val (.int (0 : Int32))] [])) _
      refine XS.aload X5_39.here hx rfl (hb hby at_137) rfl rfl ?_
      show Steps p.tables e below (T5_39.setTop (mkF m 139 #[.val (.int p1), .val (.int p2), .val (.int p3), .val (.int p4), .val (.int (4 : Int32)), .val (.ref b5_2), .val (.int (1 : Int32)), .val (.int (0 : Int32))] [(.ref b5_2)])) _
      refine st5_40.trans ?_
      show Steps p.tables e below (T5_40.setTop (mkF m 142 #[.val (.int p1), .val (.int p2), .val (.int p3), .val (.int p4), .val (.int (4 : Int32)), .val (.ref b5_2), .val (.int (1 : Int32)), .val (.int (0 : Int32))] [(.int (1 : Int32))])) _
      refine XS.istore X5_40.here hx rfl (hb hby at_142) rfl (l' := #[.val (.int p1), .val (.int p2), .val (.int p3), .val (.int p4), .val (.int (4 : Int32)), .val (.ref b5_2), .val (.int (1 : Int32)), .val (.int (1 : Int32))]) rfl ?_
      show Steps p.tables e below (T5_40.setTop (mkF m 144 #[.val (.int p1), .val (.int p2), .val (.int p3), .val (.int p4), .val (.int (4 : Int32)), .val (.ref b5_2), .val (.int (1 : Int32)), .val (.int (1 : Int32))] [])) _
      refine XS.iload X5_40.here hx rfl (hb hby at_144) rfl ?_
      show Steps p.tables e below (T5_40.setTop (mkF m 146 #[.val (.int p1), .val (.int p2), .val (.int p3), .val (.int p4), .val (.int (4 : Int32)), .val (.ref b5_2), .val (.int (1 : Int32)), .val (.int (1 : Int32))] [(.int (1 : Int32))])) _
      refine XS.ifNo X5_40.here hx rfl (hb hby at_146) rfl ((if0 _ _).trans (feq hc146_40).1) ?_
      show Steps p.tables e below (T5_40.setTop (mkF m 149 #[.val (.int p1), .val (.int p2), .val (.int p3), .val (.int p4), .val (.int (4 : Int32)), .val (.ref b5_2), .val (.int (1 : Int32)), .val (.int (1 : Int32))] [])) _
      refine XS.iload X5_40.here hx rfl (hb hby at_149) rfl ?_
      show Steps p.tables e below (T5_40.setTop (mkF m 151 #[.val (.int p1), .val (.int p2), .val (.int p3), .val (.int p4), .val (.int (4 : Int32)), .val (.ref b5_2), .val (.int (1 : Int32)), .val (.int (1 : Int32))] [(.int (1 : Int32))])) _
      refine XS.iconst X5_40.here hx rfl (hb hby at_151) ?_
      show Steps p.tables e below (T5_40.setTop (mkF m 152 #[.val (.int p1), .val (.int p2), .val (.int p3), .val (.int p4), .val (.int (4 : Int32)), .val (.ref b5_2), .val (.int (1 : Int32)), .val (.int (1 : Int32))] [(.int (1 : Int32)), (.int (1 : Int32))])) _
      refine XS.icmpNo X5_40.here hx rfl (hb hby at_152) rfl (teq ((by decide) : (1 : Int32) = (1 : Int32))).2 ?_
      show Steps p.tables e below (T5_40.setTop (mkF m 155 #[.val (.int p1), .val (.int p2), .val (.int p3), .val (.int p4), .val (.int (4 : Int32)), .val (.ref b5_2), .val (.int (1 : Int32)), .val (.int (1 : Int32))] [])) _
      refine XS.iconst X5_40.here hx rfl (hb hby at_155) ?_
      show Steps p.tables e below (T5_40.setTop (mkF m 156 #[.val (.int p1), .val (.int p2), .val (.int p3), .val (.int p4), .val (.int (4 : Int32)), .val (.ref b5_2), .val (.int (1 : Int32)), .val (.int (1 : Int32))] [(.int (1 : Int32))])) _
      refine XS.goto X5_40.here hx rfl (pc0 := 156) (pc' := 160) rfl (hb hby at_156) (by decide) (by decide) ?_
      show Steps p.tables e below (T5_40.setTop (mkF m 160 #[.val (.int p1), .val (.int p2), .val (.int p3), .val (.int p4), .val (.int (4 : Int32)), .val (.ref b5_2), .val (.int (1 : Int32)), .val (.int (1 : Int32))] [(.int (1 : Int32))])) _
      refine XS.istore X5_40.here hx rfl (hb hby at_160) rfl (l' := #[.val (.int p1), .val (.int p2), .val (.int p3), .val (.int p4), .val (.int (4 : Int32)), .val (.ref b5_2), .val (.int (1 : Int32)), .val (.int (1 : Int32))]) rfl ?_
      exact kt
    rw [show own_rem ((1 : Int32) + (1 : Int32)) (4 : Int32) = (2 : Int32) from by decide] at Fhe6_40
    rw [show ((3 : Int32) - (1 : Int32)) = (2 : Int32) from by decide] at Fsi6_40
    have Z6_40 : n0 ≤ T5_40.heap.size := Nat.le_trans Z6_39 K6_40.1
    have ar6_40 := own_ak ar6_39 K6_40 (ninS (Ne.symm ne1) (ninS ne3 nin0))
    have sd6_40 := Sd6_40.trans sd6_39
    have hi2 : ¬ ((2 : Int32) < 0 ∨ crF.slots.size ≤ ((2 : Int32)).toNatClampNeg) := inb_of SrF ⟨by decide, by decide⟩
    have ha2 : crF.slots[((2 : Int32)).toNatClampNeg]? = some (.int (2 : Int32)) := by rw [show ((2 : Int32)).toNatClampNeg = 2 from by decide]; exact HrF 2 (by rw [eN]; decide)
    have hd2 : ¬ ((2 : Int32) < 0 ∨ cd6_40.slots.size ≤ ((2 : Int32)).toNatClampNeg) := inb_of sd6_40 ⟨by decide, by decide⟩
    have hc165_41 : ¬ ((4 : Int32) < (3 : Int32)) := (by decide)
    have hc177_41 : ¬ ((1 : Int32) = (0 : Int32)) := (by decide)
    obtain ⟨cq5_41, kq5_41, q5a_41, q5b_41, q5c_41⟩ := isOf hZ (rfl : T5_40.heap = _) Ex6_40
    obtain ⟨_, _, ⟨T5_41, L5_41, k5_41, n5_41⟩, -, X5_41, ⟨Lc5_41, hQ5_41, l5_41, y5_41, z5_41⟩, st5_41⟩ := X5_40.virtualBack hx (y := (⟨"com/example/assignor/assignor/NodeQueue", "poll", "()I"⟩ : MethodName)) (z := (⟨"com/example/assignor/assignor/NodeQueue", "poll", "()I"⟩ : MethodName)) hown (mvT hZ (hw _ (List.mem_of_getElem? (i := 35) rfl))) (mvT hZ (hw _ (List.mem_of_getElem? (i := 36) rfl))) (notFace_of_selects (args := #[]) (mvT hZ (hw _ (List.mem_of_getElem? (i := 38) rfl)))) (mvT hZ (hw _ (List.mem_of_getElem? (i := 38) rfl))) (mvT hZ (hw _ (List.mem_of_getElem? (i := 37) rfl))) (by decide) (backOf (W := 0) (rm6 l Z a0 hw [] b5_2 r (2 : Int32) (2 : Int32) crF (4 : Int32) (2 : Int32) d cd6_40 T5_40.heap n0 Z6_40 Fri6_40 Fhe6_40 ar6_40 hi2 ha2 SrF (by decide) (by decide) Ex6_40 g_b5_2 Fsi6_40 Fqu6_40 Ad6_40 hd2 gd ne2) hZ (hw _ (List.mem_of_getElem? (i := 39) rfl)) (hw _ (List.mem_of_getElem? (i := 2) rfl)) (by decide) (by decide)) q5a_41 q5c_41 (g := (mkF m 170 #[.val (.int p1), .val (.int p2), .val (.int p3), .val (.int p4), .val (.int (4 : Int32)), .val (.ref b5_2), .val (.int (1 : Int32)), .val (.int (1 : Int32))] [(.ref b5_2)])) rfl (by rw [hml]; rfl) (Steps.refl _) (argsL := []) (rest := []) (lenOf pd_3 rfl) rfl (by show 2 * 0 + _ ≤ _; exact Nat.le_of_eq rfl) (hb hby at_170) (fun _ _ => ⟨rfl, (rfl : T5_40.heap = _), (by decide : 0 + 1 + 2 ≤ _), (by decide : 0 + 4 + 8 ≤ _)⟩)
    dsimp only [Pt.U, Pt.locs, Pt.cells, Pt.slots] at X5_41 l5_41 y5_41 z5_41 st5_41 hQ5_41
    subst l5_41 y5_41 z5_41
    obtain ⟨rfl, N5q_41, K6_41, Ex6_41, Fri6_41, Fqu6_41, Fhe6_41, Fsi6_41, ⟨cd6_41, Ad6_41, Sd6_41⟩⟩ := hQ5_41
    have N5_41 := Fr.app N5_40 N5q_41
    have st_41p : ∀ target, Steps p.tables e below (T5_41.setTop (mkF m 193 #[.val (.int p1), .val (.int p2), .val (.int p3), .val (.int p4), .val (.int (4 : Int32)), .val (.ref b5_2), .val (.int (1 : Int32)), .val (.int (2 : Int32))] [])) target → Steps p.tables e below (T5_40.setTop (mkF m 162 #[.val (.int p1), .val (.int p2), .val (.int p3), .val (.int p4), .val (.int (4 : Int32)), .val (.ref b5_2), .val (.int (1 : Int32)), .val (.int (1 : Int32))] [])) target := by
      intro target kt
      show Steps p.tables e below (T5_40.setTop (mkF m 162 #[.val (.int p1), .val (.int p2), .val (.int p3), .val (.int p4), .val (.int (4 : Int32)), .val (.ref b5_2), .val (.int (1 : Int32)), .val (.int (1 : Int32))] [])) _
      refine XS.iload X5_40.here hx rfl (hb hby at_162) rfl ?_
      show Steps p.tables e below (T5_40.setTop (mkF m 164 #[.val (.int p1), .val (.int p2), .val (.int p3), .val (.int p4), .val (.int (4 : Int32)), .val (.ref b5_2), .val (.int (1 : Int32)), .val (.int (1 : Int32))] [(.int (4 : Int32))])) _
      refine XS.iconst X5_40.here hx rfl (hb hby at_164) ?_
      show Steps p.tables e below (T5_40.setTop (mkF m 165 #[.val (.int p1), .val (.int p2), .val (.int p3), .val (.int p4), .val (.int (4 : Int32)), .val (.ref b5_2), .val (.int (1 : Int32)), .val (.int (1 : Int32))] [(.int (3 : Int32)), (.int (4 : Int32))])) _
      refine XS.icmpNo X5_40.here hx rfl (hb hby at_165) rfl (flt hc165_41).1 ?_
      show Steps p.tables e below (T5_40.setTop (mkF m 168 #[.val (.int p1), .val (.int p2), .val (.int p3), .val (.int p4), .val (.int (4 : Int32)), .val (.ref b5_2), .val (.int (1 : Int32)), .val (.int (1 : Int32))] [])) _
      refine XS.aload X5_40.here hx rfl (hb hby at_168) rfl rfl ?_
      show Steps p.tables e below (T5_40.setTop (mkF m 170 #[.val (.int p1), .val (.int p2), .val (.int p3), .val (.int p4), .val (.int (4 : Int32)), .val (.ref b5_2), .val (.int (1 : Int32)), .val (.int (1 : Int32))] [(.ref b5_2)])) _
      refine st5_41.trans ?_
      show Steps p.tables e below (T5_41.setTop (mkF m 173 #[.val (.int p1), .val (.int p2), .val (.int p3), .val (.int p4), .val (.int (4 : Int32)), .val (.ref b5_2), .val (.int (1 : Int32)), .val (.int (1 : Int32))] [(.int (2 : Int32))])) _
      refine XS.istore X5_41.here hx rfl (hb hby at_173) rfl (l' := #[.val (.int p1), .val (.int p2), .val (.int p3), .val (.int p4), .val (.int (4 : Int32)), .val (.ref b5_2), .val (.int (1 : Int32)), .val (.int (2 : Int32))]) rfl ?_
      show Steps p.tables e below (T5_41.setTop (mkF m 175 #[.val (.int p1), .val (.int p2), .val (.int p3), .val (.int p4), .val (.int (4 : Int32)), .val (.ref b5_2), .val (.int (1 : Int32)), .val (.int (2 : Int32))] [])) _
      refine XS.iload X5_41.here hx rfl (hb hby at_175) rfl ?_
      show Steps p.tables e below (T5_41.setTop (mkF m 177 #[.val (.int p1), .val (.int p2), .val (.int p3), .val (.int p4), .val (.int (4 : Int32)), .val (.ref b5_2), .val (.int (1 : Int32)), .val (.int (2 : Int32))] [(.int (1 : Int32))])) _
      refine XS.ifNo X5_41.here hx rfl (hb hby at_177) rfl ((if0 _ _).trans (feq hc177_41).1) ?_
      show Steps p.tables e below (T5_41.setTop (mkF m 180 #[.val (.int p1), .val (.int p2), .val (.int p3), .val (.int p4), .val (.int (4 : Int32)), .val (.ref b5_2), .val (.int (1 : Int32)), .val (.int (2 : Int32))] [])) _
      refine XS.iload X5_41.here hx rfl (hb hby at_180) rfl ?_
      show Steps p.tables e below (T5_41.setTop (mkF m 182 #[.val (.int p1), .val (.int p2), .val (.int p3), .val (.int p4), .val (.int (4 : Int32)), .val (.ref b5_2), .val (.int (1 : Int32)), .val (.int (2 : Int32))] [(.int (2 : Int32))])) _
      refine XS.iconst X5_41.here hx rfl (hb hby at_182) ?_
      show Steps p.tables e below (T5_41.setTop (mkF m 183 #[.val (.int p1), .val (.int p2), .val (.int p3), .val (.int p4), .val (.int (4 : Int32)), .val (.ref b5_2), .val (.int (1 : Int32)), .val (.int (2 : Int32))] [(.int (2 : Int32)), (.int (2 : Int32))])) _
      refine XS.icmpNo X5_41.here hx rfl (hb hby at_183) rfl (teq ((by decide) : (2 : Int32) = (2 : Int32))).2 ?_
      show Steps p.tables e below (T5_41.setTop (mkF m 186 #[.val (.int p1), .val (.int p2), .val (.int p3), .val (.int p4), .val (.int (4 : Int32)), .val (.ref b5_2), .val (.int (1 : Int32)), .val (.int (2 : Int32))] [])) _
      refine XS.iconst X5_41.here hx rfl (hb hby at_186) ?_
      show Steps p.tables e below (T5_41.setTop (mkF m 187 #[.val (.int p1), .val (.int p2), .val (.int p3), .val (.int p4), .val (.int (4 : Int32)), .val (.ref b5_2), .val (.int (1 : Int32)), .val (.int (2 : Int32))] [(.int (1 : Int32))])) _
      refine XS.goto X5_41.here hx rfl (pc0 := 187) (pc' := 191) rfl (hb hby at_187) (by decide) (by decide) ?_
      show Steps p.tables e below (T5_41.setTop (mkF m 191 #[.val (.int p1), .val (.int p2), .val (.int p3), .val (.int p4), .val (.int (4 : Int32)), .val (.ref b5_2), .val (.int (1 : Int32)), .val (.int (2 : Int32))] [(.int (1 : Int32))])) _
      refine XS.istore X5_41.here hx rfl (hb hby at_191) rfl (l' := #[.val (.int p1), .val (.int p2), .val (.int p3), .val (.int p4), .val (.int (4 : Int32)), .val (.ref b5_2), .val (.int (1 : Int32)), .val (.int (2 : Int32))]) rfl ?_
      exact kt
    rw [show own_rem ((2 : Int32) + (1 : Int32)) (4 : Int32) = (3 : Int32) from by decide] at Fhe6_41
    rw [show ((2 : Int32) - (1 : Int32)) = (1 : Int32) from by decide] at Fsi6_41
    have Z6_41 : n0 ≤ T5_41.heap.size := Nat.le_trans Z6_40 K6_41.1
    have ar6_41 := own_ak ar6_40 K6_41 (ninS (Ne.symm ne1) (ninS ne3 nin0))
    have sd6_41 := Sd6_41.trans sd6_40
    have hi3 : ¬ ((3 : Int32) < 0 ∨ crF.slots.size ≤ ((3 : Int32)).toNatClampNeg) := inb_of SrF ⟨by decide, by decide⟩
    have ha3 : crF.slots[((3 : Int32)).toNatClampNeg]? = some (.int (3 : Int32)) := by rw [show ((3 : Int32)).toNatClampNeg = 3 from by decide]; exact HrF 3 (by rw [eN]; decide)
    have hd3 : ¬ ((3 : Int32) < 0 ∨ cd6_41.slots.size ≤ ((3 : Int32)).toNatClampNeg) := inb_of sd6_41 ⟨by decide, by decide⟩
    have hc196_42 : ¬ ((4 : Int32) < (4 : Int32)) := (by decide)
    have hc208_42 : ¬ ((1 : Int32) = (0 : Int32)) := (by decide)
    obtain ⟨cq5_42, kq5_42, q5a_42, q5b_42, q5c_42⟩ := isOf hZ (rfl : T5_41.heap = _) Ex6_41
    obtain ⟨_, _, ⟨T5_42, L5_42, k5_42, n5_42⟩, -, X5_42, ⟨Lc5_42, hQ5_42, l5_42, y5_42, z5_42⟩, st5_42⟩ := X5_41.virtualBack hx (y := (⟨"com/example/assignor/assignor/NodeQueue", "poll", "()I"⟩ : MethodName)) (z := (⟨"com/example/assignor/assignor/NodeQueue", "poll", "()I"⟩ : MethodName)) hown (mvT hZ (hw _ (List.mem_of_getElem? (i := 35) rfl))) (mvT hZ (hw _ (List.mem_of_getElem? (i := 36) rfl))) (notFace_of_selects (args := #[]) (mvT hZ (hw _ (List.mem_of_getElem? (i := 38) rfl)))) (mvT hZ (hw _ (List.mem_of_getElem? (i := 38) rfl))) (mvT hZ (hw _ (List.mem_of_getElem? (i := 37) rfl))) (by decide) (backOf (W := 0) (rm6 l Z a0 hw [] b5_2 r (3 : Int32) (3 : Int32) crF (4 : Int32) (1 : Int32) d cd6_41 T5_41.heap n0 Z6_41 Fri6_41 Fhe6_41 ar6_41 hi3 ha3 SrF (by decide) (by decide) Ex6_41 g_b5_2 Fsi6_41 Fqu6_41 Ad6_41 hd3 gd ne2) hZ (hw _ (List.mem_of_getElem? (i := 39) rfl)) (hw _ (List.mem_of_getElem? (i := 2) rfl)) (by decide) (by decide)) q5a_42 q5c_42 (g := (mkF m 201 #[.val (.int p1), .val (.int p2), .val (.int p3), .val (.int p4), .val (.int (4 : Int32)), .val (.ref b5_2), .val (.int (1 : Int32)), .val (.int (2 : Int32))] [(.ref b5_2)])) rfl (by rw [hml]; rfl) (Steps.refl _) (argsL := []) (rest := []) (lenOf pd_3 rfl) rfl (by show 2 * 0 + _ ≤ _; exact Nat.le_of_eq rfl) (hb hby at_201) (fun _ _ => ⟨rfl, (rfl : T5_41.heap = _), (by decide : 0 + 1 + 2 ≤ _), (by decide : 0 + 4 + 8 ≤ _)⟩)
    dsimp only [Pt.U, Pt.locs, Pt.cells, Pt.slots] at X5_42 l5_42 y5_42 z5_42 st5_42 hQ5_42
    subst l5_42 y5_42 z5_42
    obtain ⟨rfl, N5q_42, K6_42, Ex6_42, Fri6_42, Fqu6_42, Fhe6_42, Fsi6_42, ⟨cd6_42, Ad6_42, Sd6_42⟩⟩ := hQ5_42
    have N5_42 := Fr.app N5_41 N5q_42
    have st_42p : ∀ target, Steps p.tables e below (T5_42.setTop (mkF m 224 #[.val (.int p1), .val (.int p2), .val (.int p3), .val (.int p4), .val (.int (4 : Int32)), .val (.ref b5_2), .val (.int (1 : Int32)), .val (.int (3 : Int32))] [])) target → Steps p.tables e below (T5_41.setTop (mkF m 193 #[.val (.int p1), .val (.int p2), .val (.int p3), .val (.int p4), .val (.int (4 : Int32)), .val (.ref b5_2), .val (.int (1 : Int32)), .val (.int (2 : Int32))] [])) target := by
      intro target kt
      show Steps p.tables e below (T5_41.setTop (mkF m 193 #[.val (.int p1), .val (.int p2), .val (.int p3), .val (.int p4), .val (.int (4 : Int32)), .val (.ref b5_2), .val (.int (1 : Int32)), .val (.int (2 : Int32))] [])) _
      refine XS.iload X5_41.here hx rfl (hb hby at_193) rfl ?_
      show Steps p.tables e below (T5_41.setTop (mkF m 195 #[.val (.int p1), .val (.int p2), .val (.int p3), .val (.int p4), .val (.int (4 : Int32)), .val (.ref b5_2), .val (.int (1 : Int32)), .val (.int (2 : Int32))] [(.int (4 : Int32))])) _
      refine XS.iconst X5_41.here hx rfl (hb hby at_195) ?_
      show Steps p.tables e below (T5_41.setTop (mkF m 196 #[.val (.int p1), .val (.int p2), .val (.int p3), .val (.int p4), .val (.int (4 : Int32)), .val (.ref b5_2), .val (.int (1 : Int32)), .val (.int (2 : Int32))] [(.int (4 : Int32)), (.int (4 : Int32))])) _
      refine XS.icmpNo X5_41.here hx rfl (hb hby at_196) rfl (flt hc196_42).1 ?_
      show Steps p.tables e below (T5_41.setTop (mkF m 199 #[.val (.int p1), .val (.int p2), .val (.int p3), .val (.int p4), .val (.int (4 : Int32)), .val (.ref b5_2), .val (.int (1 : Int32)), .val (.int (2 : Int32))] [])) _
      refine XS.aload X5_41.here hx rfl (hb hby at_199) rfl rfl ?_
      show Steps p.tables e below (T5_41.setTop (mkF m 201 #[.val (.int p1), .val (.int p2), .val (.int p3), .val (.int p4), .val (.int (4 : Int32)), .val (.ref b5_2), .val (.int (1 : Int32)), .val (.int (2 : Int32))] [(.ref b5_2)])) _
      refine st5_42.trans ?_
      show Steps p.tables e below (T5_42.setTop (mkF m 204 #[.val (.int p1), .val (.int p2), .val (.int p3), .val (.int p4), .val (.int (4 : Int32)), .val (.ref b5_2), .val (.int (1 : Int32)), .val (.int (2 : Int32))] [(.int (3 : Int32))])) _
      refine XS.istore X5_42.here hx rfl (hb hby at_204) rfl (l' := #[.val (.int p1), .val (.int p2), .val (.int p3), .val (.int p4), .val (.int (4 : Int32)), .val (.ref b5_2), .val (.int (1 : Int32)), .val (.int (3 : Int32))]) rfl ?_
      show Steps p.tables e below (T5_42.setTop (mkF m 206 #[.val (.int p1), .val (.int p2), .val (.int p3), .val (.int p4), .val (.int (4 : Int32)), .val (.ref b5_2), .val (.int (1 : Int32)), .val (.int (3 : Int32))] [])) _
      refine XS.iload X5_42.here hx rfl (hb hby at_206) rfl ?_
      show Steps p.tables e below (T5_42.setTop (mkF m 208 #[.val (.int p1), .val (.int p2), .val (.int p3), .val (.int p4), .val (.int (4 : Int32)), .val (.ref b5_2), .val (.int (1 : Int32)), .val (.int (3 : Int32))] [(.int (1 : Int32))])) _
      refine XS.ifNo X5_42.here hx rfl (hb hby at_208) rfl ((if0 _ _).trans (feq hc208_42).1) ?_
      show Steps p.tables e below (T5_42.setTop (mkF m 211 #[.val (.int p1), .val (.int p2), .val (.int p3), .val (.int p4), .val (.int (4 : Int32)), .val (.ref b5_2), .val (.int (1 : Int32)), .val (.int (3 : Int32))] [])) _
      refine XS.iload X5_42.here hx rfl (hb hby at_211) rfl ?_
      show Steps p.tables e below (T5_42.setTop (mkF m 213 #[.val (.int p1), .val (.int p2), .val (.int p3), .val (.int p4), .val (.int (4 : Int32)), .val (.ref b5_2), .val (.int (1 : Int32)), .val (.int (3 : Int32))] [(.int (3 : Int32))])) _
      refine XS.iconst X5_42.here hx rfl (hb hby at_213) ?_
      show Steps p.tables e below (T5_42.setTop (mkF m 214 #[.val (.int p1), .val (.int p2), .val (.int p3), .val (.int p4), .val (.int (4 : Int32)), .val (.ref b5_2), .val (.int (1 : Int32)), .val (.int (3 : Int32))] [(.int (3 : Int32)), (.int (3 : Int32))])) _
      refine XS.icmpNo X5_42.here hx rfl (hb hby at_214) rfl (teq ((by decide) : (3 : Int32) = (3 : Int32))).2 ?_
      show Steps p.tables e below (T5_42.setTop (mkF m 217 #[.val (.int p1), .val (.int p2), .val (.int p3), .val (.int p4), .val (.int (4 : Int32)), .val (.ref b5_2), .val (.int (1 : Int32)), .val (.int (3 : Int32))] [])) _
      refine XS.iconst X5_42.here hx rfl (hb hby at_217) ?_
      show Steps p.tables e below (T5_42.setTop (mkF m 218 #[.val (.int p1), .val (.int p2), .val (.int p3), .val (.int p4), .val (.int (4 : Int32)), .val (.ref b5_2), .val (.int (1 : Int32)), .val (.int (3 : Int32))] [(.int (1 : Int32))])) _
      refine XS.goto X5_42.here hx rfl (pc0 := 218) (pc' := 222) rfl (hb hby at_218) (by decide) (by decide) ?_
      show Steps p.tables e below (T5_42.setTop (mkF m 222 #[.val (.int p1), .val (.int p2), .val (.int p3), .val (.int p4), .val (.int (4 : Int32)), .val (.ref b5_2), .val (.int (1 : Int32)), .val (.int (3 : Int32))] [(.int (1 : Int32))])) _
      refine XS.istore X5_42.here hx rfl (hb hby at_222) rfl (l' := #[.val (.int p1), .val (.int p2), .val (.int p3), .val (.int p4), .val (.int (4 : Int32)), .val (.ref b5_2), .val (.int (1 : Int32)), .val (.int (3 : Int32))]) rfl ?_
      exact kt
    rw [show own_rem ((3 : Int32) + (1 : Int32)) (4 : Int32) = (0 : Int32) from by decide] at Fhe6_42
    rw [show ((1 : Int32) - (1 : Int32)) = (0 : Int32) from by decide] at Fsi6_42
    have Z6_42 : n0 ≤ T5_42.heap.size := Nat.le_trans Z6_41 K6_42.1
    have ar6_42 := own_ak ar6_41 K6_42 (ninS (Ne.symm ne1) (ninS ne3 nin0))
    have sd6_42 := Sd6_42.trans sd6_41
    have hc233_43 : ¬ ((1 : Int32) = (0 : Int32)) := (by decide)
    obtain ⟨cq5_43, kq5_43, q5a_43, q5b_43, q5c_43⟩ := isOf hZ (rfl : T5_42.heap = _) Ex6_42
    obtain ⟨_, _, ⟨T5_43, L5_43, k5_43, n5_43⟩, -, X5_43, ⟨Lc5_43, hQ5_43, l5_43, y5_43, z5_43⟩, st5_43⟩ := X5_42.virtualBack hx (y := (⟨"com/example/assignor/assignor/NodeQueue", "isEmpty", "()Z"⟩ : MethodName)) (z := (⟨"com/example/assignor/assignor/NodeQueue", "isEmpty", "()Z"⟩ : MethodName)) hown (mvT hZ (hw _ (List.mem_of_getElem? (i := 24) rfl))) (mvT hZ (hw _ (List.mem_of_getElem? (i := 25) rfl))) (notFace_of_selects (args := #[]) (mvT hZ (hw _ (List.mem_of_getElem? (i := 27) rfl)))) (mvT hZ (hw _ (List.mem_of_getElem? (i := 27) rfl))) (mvT hZ (hw _ (List.mem_of_getElem? (i := 26) rfl))) (by decide) (backOf (W := 0) (rm4 l Z a0 hw [] b5_2 (0 : Int32) T5_42.heap n0 Z6_42 Fsi6_42) hZ (hw _ (List.mem_of_getElem? (i := 28) rfl)) (hw _ (List.mem_of_getElem? (i := 2) rfl)) (by decide) (by decide)) q5a_43 q5c_43 (g := (mkF m 226 #[.val (.int p1), .val (.int p2), .val (.int p3), .val (.int p4), .val (.int (4 : Int32)), .val (.ref b5_2), .val (.int (1 : Int32)), .val (.int (3 : Int32))] [(.ref b5_2)])) rfl (by rw [hml]; rfl) (Steps.refl _) (argsL := []) (rest := []) (lenOf pd_2 rfl) rfl (by show 2 * 0 + _ ≤ _; exact Nat.le_of_eq rfl) (hb hby at_226) (fun _ _ => ⟨rfl, (rfl : T5_42.heap = _), (by decide : 0 + 1 + 2 ≤ _), (by decide : 0 + 4 + 8 ≤ _)⟩)
    dsimp only [Pt.U, Pt.locs, Pt.cells, Pt.slots] at X5_43 l5_43 y5_43 z5_43 st5_43 hQ5_43
    subst l5_43 y5_43 z5_43
    obtain ⟨rfl, N5q_43, g4_43⟩ := hQ5_43
    have N5_43 := Fr.app N5_42 N5q_43
    have st_43p : ∀ target, Steps p.tables e below (T5_43.setTop (mkF m 246 #[.val (.int p1), .val (.int p2), .val (.int p3), .val (.int p4), .val (.int (4 : Int32)), .val (.ref b5_2), .val (.int (1 : Int32)), .val (.int (own_emp (0 : Int32)))] [(.int (1 : Int32))])) target → Steps p.tables e below (T5_42.setTop (mkF m 224 #[.val (.int p1), .val (.int p2), .val (.int p3), .val (.int p4), .val (.int (4 : Int32)), .val (.ref b5_2), .val (.int (1 : Int32)), .val (.int (3 : Int32))] [])) target := by
      intro target kt
      show Steps p.tables e below (T5_42.setTop (mkF m 224 #[.val (.int p1), .val (.int p2), .val (.int p3), .val (.int p4), .val (.int (4 : Int32)), .val (.ref b5_2), .val (.int (1 : Int32)), .val (.int (3 : Int32))] [])) _
      refine XS.aload X5_42.here hx rfl (hb hby at_224) rfl rfl ?_
      show Steps p.tables e below (T5_42.setTop (mkF m 226 #[.val (.int p1), .val (.int p2), .val (.int p3), .val (.int p4), .val (.int (4 : Int32)), .val (.ref b5_2), .val (.int (1 : Int32)), .val (.int (3 : Int32))] [(.ref b5_2)])) _
      refine st5_43.trans ?_
      show Steps p.tables e below (T5_43.setTop (mkF m 229 #[.val (.int p1), .val (.int p2), .val (.int p3), .val (.int p4), .val (.int (4 : Int32)), .val (.ref b5_2), .val (.int (1 : Int32)), .val (.int (3 : Int32))] [(.int (own_emp (0 : Int32)))])) _
      refine XS.istore X5_43.here hx rfl (hb hby at_229) rfl (l' := #[.val (.int p1), .val (.int p2), .val (.int p3), .val (.int p4), .val (.int (4 : Int32)), .val (.ref b5_2), .val (.int (1 : Int32)), .val (.int (own_emp (0 : Int32)))]) rfl ?_
      show Steps p.tables e below (T5_43.setTop (mkF m 231 #[.val (.int p1), .val (.int p2), .val (.int p3), .val (.int p4), .val (.int (4 : Int32)), .val (.ref b5_2), .val (.int (1 : Int32)), .val (.int (own_emp (0 : Int32)))] [])) _
      refine XS.iload X5_43.here hx rfl (hb hby at_231) rfl ?_
      show Steps p.tables e below (T5_43.setTop (mkF m 233 #[.val (.int p1), .val (.int p2), .val (.int p3), .val (.int p4), .val (.int (4 : Int32)), .val (.ref b5_2), .val (.int (1 : Int32)), .val (.int (own_emp (0 : Int32)))] [(.int (1 : Int32))])) _
      refine XS.ifNo X5_43.here hx rfl (hb hby at_233) rfl ((if0 _ _).trans (feq hc233_43).1) ?_
      show Steps p.tables e below (T5_43.setTop (mkF m 236 #[.val (.int p1), .val (.int p2), .val (.int p3), .val (.int p4), .val (.int (4 : Int32)), .val (.ref b5_2), .val (.int (1 : Int32)), .val (.int (own_emp (0 : Int32)))] [])) _
      refine XS.iload X5_43.here hx rfl (hb hby at_236) rfl ?_
      show Steps p.tables e below (T5_43.setTop (mkF m 238 #[.val (.int p1), .val (.int p2), .val (.int p3), .val (.int p4), .val (.int (4 : Int32)), .val (.ref b5_2), .val (.int (1 : Int32)), .val (.int (own_emp (0 : Int32)))] [(.int (own_emp (0 : Int32)))])) _
      refine XS.ifNo X5_43.here hx rfl (hb hby at_238) rfl ((if0 _ _).trans (feq ((by decide) : ¬ ((own_emp (0 : Int32)) = (0 : Int32)))).1) ?_
      show Steps p.tables e below (T5_43.setTop (mkF m 241 #[.val (.int p1), .val (.int p2), .val (.int p3), .val (.int p4), .val (.int (4 : Int32)), .val (.ref b5_2), .val (.int (1 : Int32)), .val (.int (own_emp (0 : Int32)))] [])) _
      refine XS.iconst X5_43.here hx rfl (hb hby at_241) ?_
      show Steps p.tables e below (T5_43.setTop (mkF m 242 #[.val (.int p1), .val (.int p2), .val (.int p3), .val (.int p4), .val (.int (4 : Int32)), .val (.ref b5_2), .val (.int (1 : Int32)), .val (.int (own_emp (0 : Int32)))] [(.int (1 : Int32))])) _
      refine XS.goto X5_43.here hx rfl (pc0 := 242) (pc' := 246) rfl (hb hby at_242) (by decide) (by decide) ?_
      exact kt
    obtain ⟨fs, hr, hrun, hended, hW, hsame⟩ := X5_43.leave (v := some (.int (1 : Int32))) (fun h => by rw [Bd.returns] at h; cases h)
    refine ⟨_, _, pre0 _ ?_, hrun, hended, _, _, rfl, ?_, ⟨_, rfl⟩, hW, hsame.mono (by decide) (by decide)⟩
    · show Steps p.tables e below (s₁.setTop (mkF m 0 #[.val (.int p1), .val (.int p2), .val (.int p3), .val (.int p4), .unset, .unset, .unset, .unset] [])) _
      refine st_1p _ ?_
      refine st_2p _ ?_
      refine stP _ ?_
      refine st_8p _ ?_
      refine st_37p _ ?_
      refine st_38p _ ?_
      refine st_39p _ ?_
      refine st_40p _ ?_
      refine st_41p _ ?_
      refine st_42p _ ?_
      refine st_43p _ ?_
      exact retN X5_43 hx (t := .boolean) Bd.returns (by simp) (hb hby at_246) hr
    · show Q0 Z p1 p2 p3 p4 h0 n0 _ T5_43.heap _
      exact ⟨rfl, N5_43⟩
set_option maxRecDepth 65536 in
set_option maxHeartbeats 40000000 in
theorem comes_1 {Post : Tables → Env → Array Value → State → Outcome → State → Prop} (hpost : ∀ tb e args s v u, (limb_1_1.after args s (.returned v) u = true ∧ limb_1_2.after args s (.returned v) u = true ∧ True) → FrameEnd s (.returned v) u (Jvm.fieldLocs frame_1_writes args s ++ Jvm.arrayLocs frame_1_arrays args s ++ Jvm.staticLocs frame_1_statics s) 16 128 → Post tb e args s (.returned v) u) :
    ArmFor flags0 classFile x code maxLocals ret World_1 tables_1 room_1 Calls_1 rest_1 Pre_1 Post := by
  intro l hfl _ _ p e ha hc hk s m args below hf hA hF happ hP
  obtain ⟨hcalls, hrest, hpre⟩ := hP
  obtain ⟨-, -, -, hnamed, -, -, -, hat⟩ := (Spec.applies_iff hf).mp happ
  obtain ⟨hg, hn⟩ := and_e (Cond.before_iff.mp (show (Jvm.Cond.and given_1 narrow_1).before args s = true from hpre))
  obtain ⟨g10, g11⟩ := and_e hg
  obtain ⟨g12, g13⟩ := and_e g11
  obtain ⟨g14, g15⟩ := and_e g13
  obtain ⟨g16, g17⟩ := and_e g15
  obtain ⟨w0, w1, w2, w3, rfl⟩ : ∃ w0 w1 w2 w3 : Value, args = #[w0, w1, w2, w3] := by
    have hs : args.size = 4 := by simpa [Cond.value, given_1] using g10
    obtain ⟨L⟩ := args
    match L, hs with
    | [w0, w1, w2, w3], _ => exact ⟨w0, w1, w2, w3, rfl⟩
  have hw := fun d (hd : d ∈ tables_1) => atoms_spec (ws := Jvm.Cond.code x code maxLocals ret :: tables_1) hat d (List.mem_cons_of_mem _ hd)
  have hfit : Fit s := fun {y c} hc i hi => by
    obtain ⟨ha, rfl⟩ := Array.getElem?_eq_some_iff.mp hc
    have q := List.all_eq_true.mp ((Array.all_eq_true_iff_forall_mem.mp hF) _ (Array.getElem_mem ha)) i (List.mem_range.mpr hi)
    simpa [Array.getElem?_eq_getElem hi] using q
  obtain ⟨i0, ei0⟩ := is_v g12
  obtain rfl : w0 = (.int i0) := Option.some.inj ei0
  obtain ⟨i1, ei1⟩ := is_v g14
  obtain rfl : w1 = (.int i1) := Option.some.inj ei1
  obtain ⟨i2, ei2⟩ := is_v g16
  obtain rfl : w2 = (.int i2) := Option.some.inj ei2
  obtain ⟨i3, ei3⟩ := is_v g17
  obtain rfl : w3 = (.int i3) := Option.some.inj ei3
  obtain ⟨n, o, h1, h2, h3, _, L, rfl, ⟨rfl, N⟩, hq⟩ := rm0 l s _ hw tables_1 i0 i1 i2 i3 s.heap s.heap.size (Nat.le_refl _) p e ha hc hk s m _ below hf ((Spec.applies_iff_loose hf).mp happ).1 ⟨rfl, State.Warmed39.refl s, rfl⟩ trivial
  refine ⟨n, _, h1, h2, h3, hpost _ _ _ _ _ _ ⟨Cond.after_iff.mpr rfl, Cond.after_iff.mpr (eq_i res_at (Term.int_eval (1)) rfl), trivial⟩ ⟨hq.1, hq.2.1, (hq.2.2.sift fun y hy => Or.inr (N y hy)).mono (by decide) (by decide)⟩⟩
theorem main_1_1 : Claimed_1_1 := comes_1 fun _ _ _ _ _ _ h hF => ⟨h.1, hF⟩
theorem main_1_2 : Claimed_1_2 := comes_1 fun _ _ _ _ _ _ h hF => ⟨h.2.1, hF⟩
end Jvm.Pilot.@@N@@
namespace Jvm.Pilot.@@N@@
open Jvm Jvm.ClassFile Sem Op Lib Jvm.Free Jvm.Stand Jvm.Pilot.@@N@@.Jvm.D
/-! MADE BY PROGRAM (witnessworld.py) out of the Statement's table words and the real class files: 11 classes; the members and pool entries that the words name. The judged class is class 1, her method 1. -/
namespace start1
open Jvm.ClassFile
def u (s : String) : CpInfo := .utf8 (stringToUtf16 s)
/-- a pool by its gaps: so many unusable entries, then the entry; so many at the end -/
def gap : Nat → List CpInfo → List CpInfo
  | 0, r => r
  | n + 1, r => .unusable :: gap n r
def poolList (es : List (Nat × CpInfo)) (last : Nat) : List CpInfo := es.foldr (fun e r => gap e.1 (e.2 :: r)) (gap last [])
def pool (es : List (Nat × CpInfo)) (last : Nat) : Array CpInfo := ⟨poolList es last⟩
def fileOf (pool : Array CpInfo) (this : Nat) (attrs : Array Attribute := #[]) (ms : Array MethodInfo := #[]) (fl : Nat := 33) (sup : Nat := 0) (ifs : Array Nat := #[]) (fds : Array FieldInfo := #[]) : ClassFile where
  minorVersion := 0
  majorVersion := 65
  constantPool := pool
  accessFlags := fl
  thisClass := this
  superClass := sup
  interfaces := ifs
  fields := fds
  methods := ms
  attributes := attrs
def plain (name : String) (sup : Option ClassId) : Class where
  name := name
  kind := .ordinary
  loader := none
  accessFlags := 33
  super := sup
  interfaces := #[]
  cf := none
  fields := #[]
  methods := #[]
  instanceTypes := #[]
  staticTypes := #[]
  resolved := #[]
  callSites := []
  init := .initialized
  statics := none
  mirror := none

def pool0 : Array CpInfo := pool [(5, u "<init>"), (0, u "()V"), (1, .class_ 10), (1, u "java/lang/Object")] 113

def k0c0 : Code := { maxStack := 0, maxLocals := 1, code := object_method_1_code, exceptionTable := #[], attributes := #[] }
def k0m0 : Method := { name := "<init>", desc := "()V", sig := { parameters := [], returnType := none }, accessFlags := 1, code := some k0c0 }
/-- java/lang/Object -/
def k0 : Class := { plain "java/lang/Object" none with
  accessFlags := 33
  interfaces := #[]
  cf := some (fileOf pool0 8 #[] #[{ accessFlags := 1, nameIndex := 5, descriptorIndex := 6, attributes := #[] }] 33 0 #[] #[])
  fields := #[]
  methods := #[k0m0]
  instanceTypes := #[]
  staticTypes := #[]
  resolved := Array.replicate 124 none
  statics := none }

def pool1 : Array CpInfo := pool [(2, .class_ 4), (1, u "java/lang/Object"), (0, u "<init>"), (0, u "()V"), (0, .class_ 8), (0, u "com/example/assignor/assignor/NodeQueue"), (0, .methodref 7 10), (0, .nameAndType 5 11), (0, u "(I)V"), (0, .integer 2147483647), (0, .methodref 7 14), (0, .nameAndType 15 11), (0, u "offer"), (0, .methodref 7 17), (0, .nameAndType 18 19), (0, u "poll"), (0, u "()I"), (0, .methodref 7 21), (0, .nameAndType 22 6), (0, u "fillWithAll"), (0, .methodref 7 24), (0, .nameAndType 25 26), (0, u "isEmpty"), (0, u "()Z"), (0, .class_ 28), (0, u "com/example/assignor/assignor/NodeQueueFillWithAllPinLaw"), (2, u "law"), (0, u "(IIII)Z")] 3

def k1m0 : Method := { name := "<init>", desc := "()V", sig := { parameters := [], returnType := none }, accessFlags := 1, code := none }
def k1c1 : Code := { maxStack := 3, maxLocals := 8, code := code, exceptionTable := #[], attributes := #[] }
def k1m1 : Method := { name := "law", desc := "(IIII)Z", sig := { parameters := [.int, .int, .int, .int], returnType := some .boolean }, accessFlags := 9, code := some k1c1 }
/-- com/example/assignor/assignor/NodeQueueFillWithAllPinLaw -/
def k1 : Class := { plain "com/example/assignor/assignor/NodeQueueFillWithAllPinLaw" (some 0) with
  accessFlags := 49
  interfaces := #[]
  cf := some (fileOf pool1 27 #[] #[{ accessFlags := 1, nameIndex := 5, descriptorIndex := 6, attributes := #[] }, { accessFlags := 9, nameIndex := 31, descriptorIndex := 32, attributes := #[] }] 49 2 #[] #[])
  fields := #[]
  methods := #[k1m0, k1m1]
  instanceTypes := #[]
  staticTypes := #[]
  resolved := Array.replicate 36 none
  statics := none }

def pool2 : Array CpInfo := pool [(1, .methodref 2 3), (0, .class_ 4), (0, .nameAndType 5 6), (0, u "java/lang/Object"), (0, u "<init>"), (0, u "()V"), (0, .fieldref 8 9), (0, .class_ 10), (0, .nameAndType 11 12), (0, u "com/example/assignor/assignor/NodeQueue"), (0, u "ring"), (0, u "[I"), (0, .fieldref 8 14), (0, .nameAndType 15 16), (0, u "queued"), (0, u "[Z"), (0, .fieldref 8 18), (0, .nameAndType 19 20), (0, u "head"), (0, u "I"), (0, .fieldref 8 22), (0, .nameAndType 23 20), (0, u "size"), (0, u "(I)V"), (2, u "fillWithAll"), (1, u "isEmpty"), (0, u "()Z"), (0, u "poll"), (0, u "()I"), (0, u "offer")] 2

def k2c0 : Code := { maxStack := 2, maxLocals := 2, code := prog_15_method_1_code, exceptionTable := #[], attributes := #[] }
def k2m0 : Method := { name := "<init>", desc := "(I)V", sig := { parameters := [.int], returnType := none }, accessFlags := 0, code := some k2c0 }
def k2c1 : Code := { maxStack := 3, maxLocals := 2, code := prog_15_method_2_code, exceptionTable := #[], attributes := #[] }
def k2m1 : Method := { name := "fillWithAll", desc := "()V", sig := { parameters := [], returnType := none }, accessFlags := 0, code := some k2c1 }
def k2c2 : Code := { maxStack := 1, maxLocals := 1, code := prog_15_method_3_code, exceptionTable := #[], attributes := #[] }
def k2m2 : Method := { name := "isEmpty", desc := "()Z", sig := { parameters := [], returnType := some .boolean }, accessFlags := 0, code := some k2c2 }
def k2c3 : Code := { maxStack := 3, maxLocals := 2, code := prog_15_method_4_code, exceptionTable := #[], attributes := #[] }
def k2m3 : Method := { name := "poll", desc := "()I", sig := { parameters := [], returnType := some .int }, accessFlags := 0, code := some k2c3 }
def k2c4 : Code := { maxStack := 3, maxLocals := 2, code := prog_15_method_5_code, exceptionTable := #[], attributes := #[] }
def k2m4 : Method := { name := "offer", desc := "(I)V", sig := { parameters := [.int], returnType := none }, accessFlags := 0, code := some k2c4 }
/-- com/example/assignor/assignor/NodeQueue -/
def k2 : Class := { plain "com/example/assignor/assignor/NodeQueue" (some 0) with
  accessFlags := 32
  interfaces := #[]
  cf := some (fileOf pool2 8 #[] #[{ accessFlags := 0, nameIndex := 5, descriptorIndex := 24, attributes := #[] }, { accessFlags := 0, nameIndex := 27, descriptorIndex := 6, attributes := #[] }, { accessFlags := 0, nameIndex := 29, descriptorIndex := 30, attributes := #[] }, { accessFlags := 0, nameIndex := 31, descriptorIndex := 32, attributes := #[] }, { accessFlags := 0, nameIndex := 33, descriptorIndex := 24, attributes := #[] }] 32 2 #[] #[{ accessFlags := 18, nameIndex := 11, descriptorIndex := 12, attributes := #[] }, { accessFlags := 18, nameIndex := 15, descriptorIndex := 16, attributes := #[] }, { accessFlags := 2, nameIndex := 19, descriptorIndex := 20, attributes := #[] }, { accessFlags := 2, nameIndex := 23, descriptorIndex := 20, attributes := #[] }])
  fields := #[{ name := "ring", type := (.array .int), accessFlags := 18, slot := 0, constantValue := 0 }, { name := "queued", type := (.array .boolean), accessFlags := 18, slot := 1, constantValue := 0 }, { name := "head", type := .int, accessFlags := 2, slot := 2, constantValue := 0 }, { name := "size", type := .int, accessFlags := 2, slot := 3, constantValue := 0 }]
  methods := #[k2m0, k2m1, k2m2, k2m3, k2m4]
  instanceTypes := #[(.array .int), (.array .boolean), .int, .int]
  staticTypes := #[]
  resolved := Array.replicate 36 none
  statics := none }

def pool3 : Array CpInfo := pool [(1, u "java/lang/Cloneable"), (0, .class_ 1), (0, u "java/lang/Object"), (0, .class_ 3)] 3

/-- java/lang/Cloneable -/
def k3 : Class := { plain "java/lang/Cloneable" (some 0) with
  accessFlags := 1537
  interfaces := #[]
  cf := some (fileOf pool3 2 #[] #[] 1537 4 #[] #[])
  fields := #[]
  methods := #[]
  instanceTypes := #[]
  staticTypes := #[]
  resolved := Array.replicate 8 none
  statics := none }

def pool4 : Array CpInfo := pool [(1, u "java/io/Serializable"), (0, .class_ 1), (0, u "java/lang/Object"), (0, .class_ 3)] 3

/-- java/io/Serializable -/
def k4 : Class := { plain "java/io/Serializable" (some 0) with
  accessFlags := 1537
  interfaces := #[]
  cf := some (fileOf pool4 2 #[] #[] 1537 4 #[] #[])
  fields := #[]
  methods := #[]
  instanceTypes := #[]
  staticTypes := #[]
  resolved := Array.replicate 8 none
  statics := none }

/-- the primitive boolean -/
def k5 : Class := { plain "boolean" none with kind := .primitive 'Z', accessFlags := 0x411 }
/-- [Z -/
def k6 : Class := { plain "[Z" (some 0) with kind := .array 5 .boolean, interfaces := #[3, 4], accessFlags := 1041 }

/-- the primitive byte -/
def k7 : Class := { plain "byte" none with kind := .primitive 'B', accessFlags := 0x411 }
/-- [B -/
def k8 : Class := { plain "[B" (some 0) with kind := .array 7 .byte, interfaces := #[3, 4], accessFlags := 1041 }

/-- the primitive int -/
def k9 : Class := { plain "int" none with kind := .primitive 'I', accessFlags := 0x411 }
/-- [I -/
def k10 : Class := { plain "[I" (some 0) with kind := .array 9 .int, interfaces := #[3, 4], accessFlags := 1041 }

def heap : Heap := #[]
def classes : Array Class := #[k0, k1, k2, k3, k4, k5, k6, k7, k8, k9, k10]
def interned : List (Array UInt16 × Addr) := []
def slotsUsed : Nat := 0
def theMethod : MethodId := ⟨1, 1⟩
def args0 : Array Value := #[.int 1, .int 2, .int 3, .int 4]
def aboutOver (below : List Frame) : State where
  vm := { classes := classes, interned := interned.toArray }
  heap := heap
  slotsUsed := slotsUsed
  threads := #[{ frames := .invoking theMethod args0 :: below }]
def below0 : List Frame := [.native { method := ⟨0, 0⟩, args := #[] }]
def about1 : State := aboutOver below0
def p0 : Program := .bare "" "" ""
def e0 : Env := launch0.env 0 0 0
theorem w_frames : about1.frames = Frame.invoking theMethod args0 :: below0 := rfl
set_option maxRecDepth 65536 in
theorem w_args : argsFit about1.vm theMethod args0 = true := by decide +kernel
set_option maxRecDepth 65536 in
theorem w_heap : heapFits about1 = true := by decide +kernel
set_option maxRecDepth 65536 in
theorem w_runnable : about1.curStatus? = some .runnable := by decide +kernel
set_option maxRecDepth 65536 in
theorem w_alone : about1.alone = true := by decide +kernel
set_option maxRecDepth 65536 in
theorem w_named : about1.methodNamed? x = some theMethod := by decide +kernel
set_option maxRecDepth 65536 in
theorem w_hears : about1.hears theMethod below0 = true := by decide +kernel
set_option maxRecDepth 65536 in
theorem w_ripe : about1.ripe theMethod args0 below0 = true := by decide +kernel
theorem w_running : about1.status = .running := rfl
set_option maxRecDepth 65536 in
theorem w_room : about1.hasRoom e0.platform room_1 = true :=
  launch0.hasRoom_least _ room_1 (by decide +kernel) (by decide +kernel) (by decide +kernel) (by decide +kernel) (by decide +kernel) (by decide +kernel)
theorem allAtoms_all (ts : List Jvm.Cond) (a : Array Jvm.Value) (st : Jvm.State) : (allAtoms ts).before a st = ts.all (fun c => c.before a st) := by
  induction ts with
  | nil => rfl
  | cons c t ih =>
    show (Jvm.Cond.and c (allAtoms t)).before a st = _
    rw [Jvm.Cond.before_and, ih, List.all_cons]
def words1 : List Jvm.Cond := Jvm.Cond.code x code maxLocals ret :: tables_1
/-- a 'code' word, met by the world's own term for the bytes: nothing is compared byte by byte -/
theorem code_word {y : MethodName} {bytes : ByteArray} {mx : Nat} {rt : Option FieldType} {a : Array Value} {s : State} {m : MethodId} {meth : Method} {c : Code} (h1 : s.methodNamed? y = some m) (h2 : s.vm.method? m = some meth) (h3 : meth.code = some c) (h4 : c.code = bytes)
    (h5 : (c.maxLocals == mx && c.exceptionTable.isEmpty && decide (c.maxStack ≤ mostOperands) && decide (meth.sig.returnType = rt) && !meth.locks && decide (parseMethodDescriptor y.desc = some meth.sig)) = true) : (Jvm.Cond.code y bytes mx rt).before a s = true := by
  simp only [Bool.and_eq_true, beq_iff_eq, Bool.not_eq_true', decide_eq_true_eq] at h5
  obtain ⟨⟨⟨⟨⟨g1, g2⟩, g3⟩, g4⟩, g5⟩, g6⟩ := h5
  simp [Cond.before, Cond.holds, Cond.value, h1, h2, h3, h4, g1, g2, g3, g4, g5, g6]
def isCode : Jvm.Cond → Bool
  | .code _ _ _ _ => true
  | _ => false
theorem all_split {L : List Jvm.Cond} {P : Jvm.Cond → Bool} (h1 : L.all (fun c => isCode c || P c) = true) (h2 : ∀ c ∈ L.filter isCode, P c = true) : L.all P = true := by
  refine List.all_eq_true.mpr fun c hc => ?_
  have h := List.all_eq_true.mp h1 c hc
  rcases Bool.eq_false_or_eq_true (isCode c) with hi | hi
  · exact h2 c (List.mem_filter.mpr ⟨hc, hi⟩)
  · simpa [hi] using h
set_option maxRecDepth 65536 in
theorem w_c0 : (Jvm.Cond.code x code maxLocals ret).before args0 about1 = true := code_word (m := ⟨1, 1⟩) (meth := k1m1) (c := k1c1) (by decide +kernel) rfl rfl rfl (by decide +kernel)
set_option maxRecDepth 65536 in
theorem w_c1 : (Jvm.Cond.code ({ cls := "com/example/assignor/assignor/NodeQueue", name := "<init>", desc := "(I)V" } : Jvm.MethodName) prog_15_method_1_code (2 : Nat) (Option.none : Option Jvm.ClassFile.FieldType)).before args0 about1 = true := code_word (m := ⟨2, 0⟩) (meth := k2m0) (c := k2c0) (by decide +kernel) rfl rfl rfl (by decide +kernel)
set_option maxRecDepth 65536 in
theorem w_c2 : (Jvm.Cond.code ({ cls := "java/lang/Object", name := "<init>", desc := "()V" } : Jvm.MethodName) object_method_1_code (1 : Nat) (Option.none : Option Jvm.ClassFile.FieldType)).before args0 about1 = true := code_word (m := ⟨0, 0⟩) (meth := k0m0) (c := k0c0) (by decide +kernel) rfl rfl rfl (by decide +kernel)
set_option maxRecDepth 65536 in
theorem w_c3 : (Jvm.Cond.code ({ cls := "com/example/assignor/assignor/NodeQueue", name := "fillWithAll", desc := "()V" } : Jvm.MethodName) prog_15_method_2_code (2 : Nat) (Option.none : Option Jvm.ClassFile.FieldType)).before args0 about1 = true := code_word (m := ⟨2, 1⟩) (meth := k2m1) (c := k2c1) (by decide +kernel) rfl rfl rfl (by decide +kernel)
set_option maxRecDepth 65536 in
theorem w_c4 : (Jvm.Cond.code ({ cls := "com/example/assignor/assignor/NodeQueue", name := "isEmpty", desc := "()Z" } : Jvm.MethodName) prog_15_method_3_code (1 : Nat) (Option.some Jvm.ClassFile.FieldType.boolean)).before args0 about1 = true := code_word (m := ⟨2, 2⟩) (meth := k2m2) (c := k2c2) (by decide +kernel) rfl rfl rfl (by decide +kernel)
set_option maxRecDepth 65536 in
theorem w_c5 : (Jvm.Cond.code ({ cls := "com/example/assignor/assignor/NodeQueue", name := "offer", desc := "(I)V" } : Jvm.MethodName) prog_15_method_5_code (2 : Nat) (Option.none : Option Jvm.ClassFile.FieldType)).before args0 about1 = true := code_word (m := ⟨2, 4⟩) (meth := k2m4) (c := k2c4) (by decide +kernel) rfl rfl rfl (by decide +kernel)
set_option maxRecDepth 65536 in
theorem w_c6 : (Jvm.Cond.code ({ cls := "com/example/assignor/assignor/NodeQueue", name := "poll", desc := "()I" } : Jvm.MethodName) prog_15_method_4_code (2 : Nat) (Option.some Jvm.ClassFile.FieldType.int)).before args0 about1 = true := code_word (m := ⟨2, 3⟩) (meth := k2m3) (c := k2c3) (by decide +kernel) rfl rfl rfl (by decide +kernel)
def codes1 : List Jvm.Cond := [Jvm.Cond.code x code maxLocals ret, Jvm.Cond.code ({ cls := "com/example/assignor/assignor/NodeQueue", name := "<init>", desc := "(I)V" } : Jvm.MethodName) prog_15_method_1_code (2 : Nat) (Option.none : Option Jvm.ClassFile.FieldType), Jvm.Cond.code ({ cls := "java/lang/Object", name := "<init>", desc := "()V" } : Jvm.MethodName) object_method_1_code (1 : Nat) (Option.none : Option Jvm.ClassFile.FieldType), Jvm.Cond.code ({ cls := "com/example/assignor/assignor/NodeQueue", name := "fillWithAll", desc := "()V" } : Jvm.MethodName) prog_15_method_2_code (2 : Nat) (Option.none : Option Jvm.ClassFile.FieldType), Jvm.Cond.code ({ cls := "com/example/assignor/assignor/NodeQueue", name := "isEmpty", desc := "()Z" } : Jvm.MethodName) prog_15_method_3_code (1 : Nat) (Option.some Jvm.ClassFile.FieldType.boolean), Jvm.Cond.code ({ cls := "com/example/assignor/assignor/NodeQueue", name := "offer", desc := "(I)V" } : Jvm.MethodName) prog_15_method_5_code (2 : Nat) (Option.none : Option Jvm.ClassFile.FieldType), Jvm.Cond.code ({ cls := "com/example/assignor/assignor/NodeQueue", name := "poll", desc := "()I" } : Jvm.MethodName) prog_15_method_4_code (2 : Nat) (Option.some Jvm.ClassFile.FieldType.int)]
set_option maxRecDepth 65536 in
theorem codes_eq : words1.filter isCode = codes1 := rfl
theorem w_codes : ∀ c ∈ words1.filter isCode, c.before args0 about1 = true := by
  rw [codes_eq]
  intro c hc
  simp only [codes1, List.mem_cons, List.not_mem_nil, or_false] at hc
  rcases hc with rfl | rfl | rfl | rfl | rfl | rfl | rfl
  · exact w_c0
  · exact w_c1
  · exact w_c2
  · exact w_c3
  · exact w_c4
  · exact w_c5
  · exact w_c6
set_option maxRecDepth 65536 in
theorem w_t1 : (words1.take 24).all (fun c => isCode c || c.before args0 about1) = true := by decide +kernel
set_option maxRecDepth 65536 in
theorem w_t2 : (words1.drop 24).all (fun c => isCode c || c.before args0 about1) = true := by decide +kernel
theorem w_tables : (allAtoms (Jvm.Cond.code x code maxLocals ret :: tables_1)).before args0 about1 = true := by
  rw [allAtoms_all]
  show words1.all (fun c => c.before args0 about1) = true
  refine all_split ?_ w_codes
  rw [← List.take_append_drop 24 words1, List.all_append, w_t1, w_t2]
  rfl
set_option maxRecDepth 65536 in
theorem w_case : (Jvm.Cond.and given_1 narrow_1).before args0 about1 = true := by decide +kernel
theorem w_applies : (headSpec (Jvm.Cond.code x code maxLocals ret :: tables_1) room_1).applies x e0.platform about1 = true :=
  (Spec.applies_iff w_frames).mpr ⟨w_running, w_runnable, w_alone, w_named, w_hears, w_ripe, w_room, w_tables⟩
theorem atStart : AtStart classFile x code maxLocals ret World_1 tables_1 room_1 Calls_1 rest_1 Pre_1 launch0 p0 e0 about1 theMethod args0 below0 :=
  ⟨lists_1, trivial, launch0.admits_env _ _ _, launch0.least_env, fairChoices_fair.cas, fairChoices_fair.clock, w_frames, w_args, w_heap, w_applies, trivial, trivial, w_case⟩
end start1
theorem witness_1 : WitnessClaimed_1 := ⟨start1.p0, start1.e0, start1.about1, start1.theMethod, start1.args0, start1.below0, start1.atStart⟩
end Jvm.Pilot.@@N@@
