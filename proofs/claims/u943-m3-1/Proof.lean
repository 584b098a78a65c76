import JvmDerived
import JvmDerived.Pilot.@@N@@Statement
import JvmDerived.Pilot.@@N@@Code
set_option linter.unusedVariables false
set_option linter.unusedSimpArgs false
namespace Jvm.RoadKit
open Sem ClassFile Op Lib Jvm.Stand Jvm.Free Jvm.LawKit
section New
variable {p : Program} {l : Launch} {e : Env} {R : Room} {s : State} {m : MethodId} {args : Array Value} {below : List Frame} {meth : Method} {c : Code} {T : State} {locs : List Loc} {cells slots : Nat}
theorem retI (X : Stand p l e R s m args below meth c T locs cells slots) (hx : p.tables.exec = Jvm.exec) {pc : Nat} {Ls : Array Slot} {z : Int32} {rest : List Value} (hret : meth.sig.returnType = some .int) (hd : decode c.code pc = .ok (.ireturn, 1)) {fs : List Frame}
    (hl : ∀ (f : JFrame) (acts : List Action), f.method = m → f.locked = none → f.entered = [] → (doReturn e (T.setTop f) acts (some (.int z))).1 = T.setFrames fs) : Steps p.tables e below (T.setTop (mkF m pc Ls (.int z :: rest))) (T.setFrames fs) := by
  have hm' : T.vm.method? m = some meth := X.method'
  have hn : narrow .int (.int z) = .int z := rfl
  show Steps p.tables e below (T.setTop { method := m, pc := pc, locals := Ls, stack := _ :: rest, locked := none }) _
  jvm_step X.here [X.here.top, hx, hd, hm', hret, hn]
  first | (intro acts; rw [hl _ acts rfl rfl rfl]) | rw [hl _ _ rfl rfl rfl]
  exact Steps.refl _
end New
end Jvm.RoadKit
namespace Jvm.Pilot.@@N@@
open Jvm Jvm.ClassFile Sem Op Lib Jvm.Free Jvm.Stand Jvm.LawKit Jvm.RoadKit Bundle Jvm.Pilot.@@N@@.Jvm.D

theorem own_kp {h h' : Heap} (g : h' = h) : Keep h h' [] := by subst g; exact Keep.refl _ _
theorem own_kq {h h' : Heap} (ws : List Addr) (g : h' = h) : Keep h h' ws := by subst g; exact Keep.refl _ _
theorem own_fk {Z : State} {h h' : Heap} {a : Addr} {C n d : String} {v : Value} (F : Fld Z h a C n d v) (g : h' = h) : Fld Z h' a C n d v := by subst g; exact F
theorem own_ek {Z : State} {h h' : Heap} {a : Addr} {C : String} (F : Exa Z h a C) (g : h' = h) : Exa Z h' a C := by subst g; exact F
theorem own_zk {n : Nat} {h h' : Heap} (F : n ≤ h.size) (g : h' = h) : n ≤ h'.size := by subst g; exact F

def own_rem (x y : Int32) : Int32 := x - (x / y) * y
def own_div (x y : Int32) : Int32 := x / y
theorem own_and7 (x : Int32) : 0 ≤ (x &&& (2147483647 : Int32)).toInt := by
  have e : (x &&& (2147483647 : Int32)).toBitVec = x.toBitVec &&& 2147483647#32 := rfl
  have k : (x.toBitVec &&& 2147483647#32).toNat = x.toBitVec.toNat % 2147483648 := by rw [BitVec.toNat_and]; exact Nat.and_two_pow_sub_one_eq_mod _ 31
  show 0 ≤ (x &&& (2147483647 : Int32)).toBitVec.toInt
  rw [e, BitVec.toInt_eq_toNat_of_lt (by rw [k]; omega)]
  omega
theorem own_rem_toInt {x y : Int32} (hx : 0 ≤ x.toInt) (hy : 0 < y.toInt) : (own_rem x y).toInt = x.toInt % y.toInt := by
  unfold own_rem
  have h1 : (x / y).toInt = x.toInt / y.toInt := by
    rw [Int32.toInt_div, Int.tdiv_eq_ediv_of_nonneg hx]
    have a1 := Int.ediv_nonneg hx (Int.le_of_lt hy)
    have a2 : x.toInt / y.toInt ≤ x.toInt := Int.ediv_le_self _ hx
    have a3 := x.toInt_lt
    have := x.le_toInt
    exact Int.bmod_eq_of_le (by omega) (by omega)
  have h2 : (x / y * y).toInt = x.toInt / y.toInt * y.toInt := by
    rw [Int32.toInt_mul, h1]
    have b1 := Int.ediv_mul_le x.toInt (Int.ne_of_gt hy)
    have b2 := Int.mul_nonneg (Int.ediv_nonneg hx (Int.le_of_lt hy)) (Int.le_of_lt hy)
    have a3 := x.toInt_lt
    exact Int.bmod_eq_of_le (by omega) (by omega)
  rw [Int32.toInt_sub, h2]
  have b1 := Int.ediv_mul_le x.toInt (Int.ne_of_gt hy)
  have b2 := Int.mul_nonneg (Int.ediv_nonneg hx (Int.le_of_lt hy)) (Int.le_of_lt hy)
  have a3 := x.toInt_lt
  rw [Int.bmod_eq_of_le (by omega) (by omega), Int.emod_def, Int.mul_comm y.toInt]
theorem own_rem_in (x : Int32) {y : Int32} (hy : 0 < y.toInt) : 0 ≤ (own_rem (x &&& (2147483647 : Int32)) y).toInt ∧ (own_rem (x &&& (2147483647 : Int32)) y).toInt < y.toInt := by
  rw [own_rem_toInt (own_and7 x) hy]
  exact ⟨Int.emod_nonneg _ (Int.ne_of_gt hy), Int.emod_lt_of_pos _ hy⟩

theorem own_vk {Z : State} {h h' : Heap} {a : Addr} {k : ClassId} {ty : FieldType} {z : Int32} {vs : List Value} {d : Value} (F : Arv Z h a k ty z vs d) (g : h' = h) : Arv Z h' a k ty z vs d := by subst g; exact F
theorem own_rk {Z : State} {h h' : Heap} {a : Addr} {c : Cell} {ty : FieldType} (F : Arr Z h a c ty) (g : h' = h) : Arr Z h' a c ty := by subst g; exact F
theorem own_ak {Z : State} {h h' : Heap} {a : Addr} {c : Cell} {ty : FieldType} {ws : List Addr} (A : Arr Z h a c ty) (K : Keep h h' ws) (q : a ∉ ws) : Arr Z h' a c ty := ⟨K.2.1 a c A.1 q, A.2⟩
theorem own_ss (c : Cell) (i : Nat) (v : Value) : (c.setSlot i v).slots = c.slots.setIfInBounds i v := rfl
theorem own_gs (c : Cell) (i : Nat) (v : Value) (hi : i < c.slots.size) : (c.setSlot i v).slots[i]? = some v := by
  rw [own_ss]; exact Array.getElem?_setIfInBounds_self_of_lt hi
theorem own_gn (c : Cell) (i j : Nat) (v : Value) (h : i ≠ j) : (c.setSlot i v).slots[j]? = c.slots[j]? := by
  rw [own_ss]; exact Array.getElem?_setIfInBounds_ne h
theorem own_pad {Z : State} {h : Heap} {a : Addr} {k : ClassId} {z z' : Int32} (n : Nat) (V : Arv Z h a k .int z [] (.int 0)) (e : z = z') : Arv Z h a k .int z' (List.replicate n (.int 0)) (.int 0) := by
  subst e; exact V.pad (pad_rep [] (.int 0) n)
def own_V (Z : State) (h : Heap) (a : Addr) (z : Int32) (vs : List Value) : Prop := ∃ k, Arv Z h a k .int z vs (.int 0)
def own_Sh (Z : State) (h : Heap) (a : Addr) : Prop := ∃ c : Cell, Arr Z h a c .int ∧ c.slots.size = (2 : Int32).toNatClampNeg
/-- two ints, none above b -/
def own_Ow (Z : State) (h : Heap) (a : Addr) (b : Int) : Prop := ∃ c : Cell, Arr Z h a c .int ∧ c.slots.size = (2 : Int32).toNatClampNeg ∧ ∀ j, j < 2 → ∃ w : Int32, c.slots[j]? = some (.int w) ∧ w.toInt ≤ b
/-- the builder and its parts -/
def own_B (Z : State) (h : Heap) (la bu ru sa on ow : Addr) (rc br : Int32) (rs ss : List Value) (b : Int) : Prop :=
  Exa Z h bu "com/example/tilecairn/tilecairn/zonal/CoveredBlocks$Builder" ∧ Exa Z h la "com/example/tilecairn/tilecairn/tiff/Layout" ∧ Fld Z h la "com/example/tilecairn/tilecairn/tiff/Layout" "blocksAcross" "I" (.int 4) ∧ Fld Z h bu "com/example/tilecairn/tilecairn/zonal/CoveredBlocks$Builder" "layout" "Lcom/example/tilecairn/tilecairn/tiff/Layout;" (.ref la) ∧ Fld Z h bu "com/example/tilecairn/tilecairn/zonal/CoveredBlocks$Builder" "runs" "[I" (.ref ru) ∧ Fld Z h bu "com/example/tilecairn/tilecairn/zonal/CoveredBlocks$Builder" "starts" "[I" (.ref sa) ∧ Fld Z h bu "com/example/tilecairn/tilecairn/zonal/CoveredBlocks$Builder" "openRun" "[I" (.ref on) ∧ Fld Z h bu "com/example/tilecairn/tilecairn/zonal/CoveredBlocks$Builder" "openRow" "[I" (.ref ow) ∧ Fld Z h bu "com/example/tilecairn/tilecairn/zonal/CoveredBlocks$Builder" "runCount" "I" (.int rc) ∧ Fld Z h bu "com/example/tilecairn/tilecairn/zonal/CoveredBlocks$Builder" "blockRow" "I" (.int br) ∧ own_V Z h ru (192 : Int32) rs ∧ own_V Z h sa (4 : Int32) ss ∧ own_Sh Z h on ∧ own_Ow Z h ow b
def own_put (rs : List Value) (rc c p : Int32) : List Value := ((rs.set ((3 : Int32) * rc).toNatClampNeg (.int c)).set (((3 : Int32) * rc) + (1 : Int32)).toNatClampNeg (.int (c + (1 : Int32)))).set (((3 : Int32) * rc) + (2 : Int32)).toNatClampNeg (.int p)
def own_min (a b : Int32) : Int32 := if b < a then b else a
/-- the first n of an array's values -/
def own_fst (vs : List Value) (n : Nat) : List Value := (List.range n).map fun i => vs.getD (0 + i) (.int 0)
theorem own_nn {n : Int32} (h : 0 ≤ n.toInt) : ¬ n < 0 := by
  rw [Int32.lt_iff_toInt_lt]
  have e0 : (0 : Int32).toInt = 0 := rfl
  omega
theorem d2_0 : decode jdk_30_method_1_code 0 = .ok (.aload_n 0, 1) := by decide +kernel
theorem d2_1 : decode jdk_30_method_1_code 1 = .ok (.invokespecial 1, 3) := by decide +kernel
theorem d2_4 : decode jdk_30_method_1_code 4 = .ok (.return_, 1) := by decide +kernel
theorem pn_2 : plainName "java/lang/Record" = true := by first | (simp [plainName, overriddenIn]; done) | decide +kernel
theorem ef_2 (m : MethodId) (x0 : Addr) : entryFrame m #[(.ref x0)] 1 = mkF m 0 #[.val (.ref x0)] [] := by first | (simp [entryFrame, mkF, argsToLocals, Value.category]; done) | rfl
def Q2 (Z : State) (a1 : Addr) (h0 : Heap) (n0 : Nat) (v : Option Value) (h : Heap) (L : List Loc) : Prop := v = none ∧ Fr n0 L ∧ h = h0
set_option maxRecDepth 65536 in
set_option maxHeartbeats 40000000 in
theorem rm2 (l : Launch) (Z : State) (a0 : Array Value) (hw : ∀ d ∈ tables_1, d.before a0 Z = true) (ws : List Jvm.Cond) (a1 : Addr) (h0 : Heap) (n0 : Nat) (Z0 : n0 ≤ h0.size) :
    MetFree l (⟨"java/lang/Record", "<init>", "()V"⟩ : MethodName) (head1 (Jvm.Cond.code (⟨"java/lang/Record", "<init>", "()V"⟩ : MethodName) jdk_30_method_1_code 1 none :: ws) ({ frames := 1, cells := 0, slots := 0, locals := 12 } : Room)) (fun a U => a = #[(.ref a1)] ∧ Z.Warmed39 U.vm ∧ U.heap = h0) (fun _ _ _ _ _ => True) (fun _ U o U' => ∃ v L, o = .returned v ∧ Q2 Z a1 h0 n0 v U'.heap L ∧ FrameEnd U o U' L ({ frames := 1, cells := 0, slots := 0, locals := 12 } : Room).cells ({ frames := 1, cells := 0, slots := 0, locals := 12 } : Room).slots) := by
  refine MetFree.of_bodySF (plainFor_of_name pn_2) hisR ?_
  intro p e s m args below meth c s₁ Bd hml0 hP hK
  obtain ⟨rfl, hZ, hh⟩ := hP
  have hx := Bd.exec
  have hby := Bd.bytes
  have hml : c.maxLocals = 1 := hml0
  have hown : s.vm.findClass "java/lang/Record" = some m.cls := findClass_of_methodNamed Bd.named
  have hnm := (name_of_methodNamed Bd.named Bd.method).1
  have X0 : Stand p l e ({ frames := 1, cells := 0, slots := 0, locals := 12 } : Room) s m #[(.ref a1)] below meth c s₁ [] 0 0 := Stand.of_body Bd
  have e0 : s₁.heap = h0 := by rw [← hh, Bd.state]; rfl
  have N0 := Fr.nil n0
  have pre0 : ∀ t, Steps p.tables e below (s₁.setTop (mkF m 0 #[.val (.ref a1)] [])) t → Steps p.tables e below (s₁.setTop (entryFrame m #[(.ref a1)] 1)) t := fun t k => castTop (ef_2 m a1) k
  obtain ⟨T2, X2, e2, st2⟩ := initO X0 hx hZ hown (hw _ (List.mem_of_getElem? (i := 12) rfl)) (hw _ (List.mem_of_getElem? (i := 13) rfl)) (hw _ (List.mem_of_getElem? (i := 14) rfl)) e0 (g := (mkF m 1 #[.val (.ref a1)] [(.ref a1)])) rfl (by rw [hml]; rfl) rfl (hb hby d2_1) (by decide) (W := 0) (by show 2 * 0 + _ ≤ _; exact Nat.le_of_eq rfl) (by decide)
  obtain ⟨fs, hr, hrun, hended, hW, hsame⟩ := X2.leave (v := none) (fun _ => rfl)
  refine ⟨_, _, pre0 _ ?_, hrun, hended, _, _, rfl, ?_, ⟨_, rfl⟩, hW, hsame.mono (by decide) (by decide)⟩
  · show Steps p.tables e below (s₁.setTop (mkF m 0 #[.val (.ref a1)] [])) _
    refine XS.aloadN X0.here hx rfl (hb hby d2_0) rfl rfl ?_
    show Steps p.tables e below (s₁.setTop (mkF m 1 #[.val (.ref a1)] [(.ref a1)])) _
    refine st2 _ ?_
    show Steps p.tables e below (T2.setTop (mkF m 4 #[.val (.ref a1)] [])) _
    exact X2.returnOut hx Bd.returns (hb hby d2_4) hr
  · show Q2 Z a1 h0 n0 _ T2.heap _
    rw [e2]
    exact ⟨rfl, N0, rfl⟩
theorem d1_0 : decode prog_41_method_1_code 0 = .ok (.aload_n 0, 1) := by decide +kernel
theorem d1_1 : decode prog_41_method_1_code 1 = .ok (.invokespecial 1, 3) := by decide +kernel
theorem d1_4 : decode prog_41_method_1_code 4 = .ok (.aload_n 0, 1) := by decide +kernel
theorem d1_5 : decode prog_41_method_1_code 5 = .ok (.iload_n 1, 1) := by decide +kernel
theorem d1_6 : decode prog_41_method_1_code 6 = .ok (.putfield 7, 3) := by decide +kernel
theorem d1_9 : decode prog_41_method_1_code 9 = .ok (.aload_n 0, 1) := by decide +kernel
theorem d1_10 : decode prog_41_method_1_code 10 = .ok (.iload_n 2, 1) := by decide +kernel
theorem d1_11 : decode prog_41_method_1_code 11 = .ok (.putfield 13, 3) := by decide +kernel
theorem d1_14 : decode prog_41_method_1_code 14 = .ok (.aload_n 0, 1) := by decide +kernel
theorem d1_15 : decode prog_41_method_1_code 15 = .ok (.iload_n 3, 1) := by decide +kernel
theorem d1_16 : decode prog_41_method_1_code 16 = .ok (.putfield 17, 3) := by decide +kernel
theorem d1_19 : decode prog_41_method_1_code 19 = .ok (.aload_n 0, 1) := by decide +kernel
theorem d1_20 : decode prog_41_method_1_code 20 = .ok (.iload 4, 2) := by decide +kernel
theorem d1_22 : decode prog_41_method_1_code 22 = .ok (.putfield 20, 3) := by decide +kernel
theorem d1_25 : decode prog_41_method_1_code 25 = .ok (.aload_n 0, 1) := by decide +kernel
theorem d1_26 : decode prog_41_method_1_code 26 = .ok (.iload 5, 2) := by decide +kernel
theorem d1_28 : decode prog_41_method_1_code 28 = .ok (.putfield 23, 3) := by decide +kernel
theorem d1_31 : decode prog_41_method_1_code 31 = .ok (.return_, 1) := by decide +kernel
theorem pn_1 : plainName "com/example/tilecairn/tilecairn/tiff/Layout" = true := by first | (simp [plainName, overriddenIn]; done) | decide +kernel
theorem pd_0 : parseMethodDescriptor "()V" = some ⟨[], none⟩ := by decide +kernel
theorem ef_1 (m : MethodId) (x0 : Addr) (x1 : Int32) (x2 : Int32) (x3 : Int32) (x4 : Int32) (x5 : Int32) : entryFrame m #[(.ref x0), (.int x1), (.int x2), (.int x3), (.int x4), (.int x5)] 6 = mkF m 0 #[.val (.ref x0), .val (.int x1), .val (.int x2), .val (.int x3), .val (.int x4), .val (.int x5)] [] := by first | (simp [entryFrame, mkF, argsToLocals, Value.category]; done) | rfl
def Q1 (Z : State) (a1 : Addr) (p2 : Int32) (p3 : Int32) (p4 : Int32) (p5 : Int32) (p6 : Int32) (u_tiled_a1 : Value) (u_blockWidth_a1 : Value) (u_blockHeight_a1 : Value) (u_blocksAcross_a1 : Value) (u_blocksDown_a1 : Value) (h0 : Heap) (n0 : Nat) (v : Option Value) (h : Heap) (L : List Loc) : Prop := v = none ∧ Fr n0 L ∧ Keep h0 h [a1] ∧ Exa Z h a1 "com/example/tilecairn/tilecairn/tiff/Layout" ∧ Fld Z h a1 "com/example/tilecairn/tilecairn/tiff/Layout" "blocksAcross" "I" (.int p5) ∧ Fld Z h a1 "com/example/tilecairn/tilecairn/tiff/Layout" "blocksDown" "I" (.int p6)
set_option maxRecDepth 65536 in
set_option maxHeartbeats 40000000 in
theorem rm1 (l : Launch) (Z : State) (a0 : Array Value) (hw : ∀ d ∈ tables_1, d.before a0 Z = true) (ws : List Jvm.Cond) (a1 : Addr) (p2 : Int32) (p3 : Int32) (p4 : Int32) (p5 : Int32) (p6 : Int32) (u_tiled_a1 : Value) (u_blockWidth_a1 : Value) (u_blockHeight_a1 : Value) (u_blocksAcross_a1 : Value) (u_blocksDown_a1 : Value) (h0 : Heap) (n0 : Nat) (Z0 : n0 ≤ h0.size) (E_a1 : Exa Z h0 a1 "com/example/tilecairn/tilecairn/tiff/Layout") (F_tiled_a1 : Fld Z h0 a1 "com/example/tilecairn/tilecairn/tiff/Layout" "tiled" "Z" u_tiled_a1) (g_a1 : n0 ≤ a1) (F_blockWidth_a1 : Fld Z h0 a1 "com/example/tilecairn/tilecairn/tiff/Layout" "blockWidth" "I" u_blockWidth_a1) (F_blockHeight_a1 : Fld Z h0 a1 "com/example/tilecairn/tilecairn/tiff/Layout" "blockHeight" "I" u_blockHeight_a1) (F_blocksAcross_a1 : Fld Z h0 a1 "com/example/tilecairn/tilecairn/tiff/Layout" "blocksAcross" "I" u_blocksAcross_a1) (F_blocksDown_a1 : Fld Z h0 a1 "com/example/tilecairn/tilecairn/tiff/Layout" "blocksDown" "I" u_blocksDown_a1) :
    MetFree l (⟨"com/example/tilecairn/tilecairn/tiff/Layout", "<init>", "(ZIIII)V"⟩ : MethodName) (head1 (Jvm.Cond.code (⟨"com/example/tilecairn/tilecairn/tiff/Layout", "<init>", "(ZIIII)V"⟩ : MethodName) prog_41_method_1_code 6 none :: ws) ({ frames := 2, cells := 0, slots := 0, locals := 24 } : Room)) (fun a U => a = #[(.ref a1), (.int p2), (.int p3), (.int p4), (.int p5), (.int p6)] ∧ Z.Warmed39 U.vm ∧ U.heap = h0) (fun _ _ _ _ _ => True) (fun _ U o U' => ∃ v L, o = .returned v ∧ Q1 Z a1 p2 p3 p4 p5 p6 u_tiled_a1 u_blockWidth_a1 u_blockHeight_a1 u_blocksAcross_a1 u_blocksDown_a1 h0 n0 v U'.heap L ∧ FrameEnd U o U' L ({ frames := 2, cells := 0, slots := 0, locals := 24 } : Room).cells ({ frames := 2, cells := 0, slots := 0, locals := 24 } : Room).slots) := by
  refine MetFree.of_bodySF (plainFor_of_name pn_1) hisR ?_
  intro p e s m args below meth c s₁ Bd hml0 hP hK
  obtain ⟨rfl, hZ, hh⟩ := hP
  have hx := Bd.exec
  have hby := Bd.bytes
  have hml : c.maxLocals = 6 := hml0
  have hown : s.vm.findClass "com/example/tilecairn/tilecairn/tiff/Layout" = some m.cls := findClass_of_methodNamed Bd.named
  have hnm := (name_of_methodNamed Bd.named Bd.method).1
  have X0 : Stand p l e ({ frames := 2, cells := 0, slots := 0, locals := 24 } : Room) s m #[(.ref a1), (.int p2), (.int p3), (.int p4), (.int p5), (.int p6)] below meth c s₁ [] 0 0 := Stand.of_body Bd
  have e0 : s₁.heap = h0 := by rw [← hh, Bd.state]; rfl
  have N0 := Fr.nil n0
  have pre0 : ∀ t, Steps p.tables e below (s₁.setTop (mkF m 0 #[.val (.ref a1), .val (.int p2), .val (.int p3), .val (.int p4), .val (.int p5), .val (.int p6)] [])) t → Steps p.tables e below (s₁.setTop (entryFrame m #[(.ref a1), (.int p2), (.int p3), (.int p4), (.int p5), (.int p6)] 6)) t := fun t k => castTop (ef_1 m a1 p2 p3 p4 p5 p6) k
  obtain ⟨_, _, ⟨T7, L7, k7, n7⟩, -, X7, ⟨Lc7, hQ7, l7, y7, z7⟩, st7⟩ := X0.specialBack hx (y := (⟨"java/lang/Record", "<init>", "()V"⟩ : MethodName)) rfl hown (mvT hZ (hw _ (List.mem_of_getElem? (i := 7) rfl))) (mvT hZ (hw _ (List.mem_of_getElem? (i := 8) rfl))) (mvT hZ (hw _ (List.mem_of_getElem? (i := 11) rfl))) (by decide) (backOf (W := 0) (rm2 l Z a0 hw [] a1 h0 n0 Z0) hZ (hw _ (List.mem_of_getElem? (i := 11) rfl)) (hw _ (List.mem_of_getElem? (i := 10) rfl)) (by decide) (by decide)) (g := (mkF m 1 #[.val (.ref a1), .val (.int p2), .val (.int p3), .val (.int p4), .val (.int p5), .val (.int p6)] [(.ref a1)])) rfl (by rw [hml]; rfl) (Steps.refl _) (a := a1) (argsL := []) (rest := []) (lenOf pd_0 rfl) rfl (by show 2 * 0 + _ ≤ _; exact Nat.le_of_eq rfl) (hb hby d1_1) (fun _ _ => ⟨rfl, e0, (by decide : 0 + 0 ≤ _), (by decide : 0 + 0 ≤ _)⟩)
  dsimp only [Pt.U, Pt.locs, Pt.cells, Pt.slots] at X7 l7 y7 z7 st7 hQ7
  subst l7 y7 z7
  obtain ⟨rfl, N7q, g7⟩ := hQ7
  have N7 := Fr.app N0 N7q
  obtain ⟨T8, h8, X8, e8, W8, st8⟩ := putFN X7 hx hZ hown (hw _ (List.mem_of_getElem? (i := 15) rfl)) Via.refl rfl (F_tiled_a1.keep (own_kp g7) nin0) (E_a1.keep (own_kp g7)) (Or.inr ⟨(hw _ (List.mem_of_getElem? (i := 16) rfl)), rfl, hnm⟩) (hw _ (List.mem_of_getElem? (i := 2) rfl)) (ty := .boolean) (v' := (.int (nar .boolean p2))) (by decide) rfl (fits_nar_bool _) (g := (mkF m 6 #[.val (.ref a1), .val (.int p2), .val (.int p3), .val (.int p4), .val (.int p5), .val (.int p6)] [(.int p2), (.ref a1)])) rfl rfl (hb hby d1_6)
  have Fw8 := (F_tiled_a1.keep (own_kp g7) nin0).same W8
  have K8 : Keep h0 h8 [a1] := (own_kq [a1] g7).wr W8 (Or.inl (List.mem_of_getElem? (i := 0) rfl))
  have N8 := Fr.snoc X8 N7 g_a1
  obtain ⟨T9, h9, X9, e9, W9, st9⟩ := putF X8 hx hZ hown (host := "") (Or.inl (hw _ (List.mem_of_getElem? (i := 17) rfl))) Via.refl e8 ((F_blockWidth_a1.keep (own_kp g7) nin0).other W8 (Or.inr (slot_ne (Or.inr (hw _ (List.mem_of_getElem? (i := 18) rfl))) (Or.inr (hw _ (List.mem_of_getElem? (i := 16) rfl))) (by decide) (t := .int) (t' := .boolean) (by decide) (by decide)))) ((E_a1.keep (own_kp g7)).wr W8) (Or.inr ⟨(hw _ (List.mem_of_getElem? (i := 18) rfl)), rfl, hnm⟩) (hw _ (List.mem_of_getElem? (i := 2) rfl)) (ty := .int) (by decide) rfl rfl (g := (mkF m 11 #[.val (.ref a1), .val (.int p2), .val (.int p3), .val (.int p4), .val (.int p5), .val (.int p6)] [(.int p3), (.ref a1)])) rfl rfl (hb hby d1_11)
  have Fw9 := ((F_blockWidth_a1.keep (own_kp g7) nin0).other W8 (Or.inr (slot_ne (Or.inr (hw _ (List.mem_of_getElem? (i := 18) rfl))) (Or.inr (hw _ (List.mem_of_getElem? (i := 16) rfl))) (by decide) (t := .int) (t' := .boolean) (by decide) (by decide)))).same W9
  have K9 : Keep h0 h9 [a1] := K8.wr W9 (Or.inl (List.mem_of_getElem? (i := 0) rfl))
  have N9 := Fr.snoc X9 N8 g_a1
  obtain ⟨T10, h10, X10, e10, W10, st10⟩ := putF X9 hx hZ hown (host := "") (Or.inl (hw _ (List.mem_of_getElem? (i := 19) rfl))) Via.refl e9 (((F_blockHeight_a1.keep (own_kp g7) nin0).other W8 (Or.inr (slot_ne (Or.inr (hw _ (List.mem_of_getElem? (i := 20) rfl))) (Or.inr (hw _ (List.mem_of_getElem? (i := 16) rfl))) (by decide) (t := .int) (t' := .boolean) (by decide) (by decide)))).other W9 (Or.inr (slot_ne (Or.inr (hw _ (List.mem_of_getElem? (i := 20) rfl))) (Or.inr (hw _ (List.mem_of_getElem? (i := 18) rfl))) (by decide) (t := .int) (t' := .int) (by decide) (by decide)))) (((E_a1.keep (own_kp g7)).wr W8).wr W9) (Or.inr ⟨(hw _ (List.mem_of_getElem? (i := 20) rfl)), rfl, hnm⟩) (hw _ (List.mem_of_getElem? (i := 2) rfl)) (ty := .int) (by decide) rfl rfl (g := (mkF m 16 #[.val (.ref a1), .val (.int p2), .val (.int p3), .val (.int p4), .val (.int p5), .val (.int p6)] [(.int p4), (.ref a1)])) rfl rfl (hb hby d1_16)
  have Fw10 := (((F_blockHeight_a1.keep (own_kp g7) nin0).other W8 (Or.inr (slot_ne (Or.inr (hw _ (List.mem_of_getElem? (i := 20) rfl))) (Or.inr (hw _ (List.mem_of_getElem? (i := 16) rfl))) (by decide) (t := .int) (t' := .boolean) (by decide) (by decide)))).other W9 (Or.inr (slot_ne (Or.inr (hw _ (List.mem_of_getElem? (i := 20) rfl))) (Or.inr (hw _ (List.mem_of_getElem? (i := 18) rfl))) (by decide) (t := .int) (t' := .int) (by decide) (by decide)))).same W10
  have K10 : Keep h0 h10 [a1] := K9.wr W10 (Or.inl (List.mem_of_getElem? (i := 0) rfl))
  have N10 := Fr.snoc X10 N9 g_a1
  obtain ⟨T11, h11, X11, e11, W11, st11⟩ := putF X10 hx hZ hown (host := "") (Or.inl (hw _ (List.mem_of_getElem? (i := 21) rfl))) Via.refl e10 ((((F_blocksAcross_a1.keep (own_kp g7) nin0).other W8 (Or.inr (slot_ne (Or.inr (hw _ (List.mem_of_getElem? (i := 22) rfl))) (Or.inr (hw _ (List.mem_of_getElem? (i := 16) rfl))) (by decide) (t := .int) (t' := .boolean) (by decide) (by decide)))).other W9 (Or.inr (slot_ne (Or.inr (hw _ (List.mem_of_getElem? (i := 22) rfl))) (Or.inr (hw _ (List.mem_of_getElem? (i := 18) rfl))) (by decide) (t := .int) (t' := .int) (by decide) (by decide)))).other W10 (Or.inr (slot_ne (Or.inr (hw _ (List.mem_of_getElem? (i := 22) rfl))) (Or.inr (hw _ (List.mem_of_getElem? (i := 20) rfl))) (by decide) (t := .int) (t' := .int) (by decide) (by decide)))) ((((E_a1.keep (own_kp g7)).wr W8).wr W9).wr W10) (Or.inr ⟨(hw _ (List.mem_of_getElem? (i := 22) rfl)), rfl, hnm⟩) (hw _ (List.mem_of_getElem? (i := 2) rfl)) (ty := .int) (by decide) rfl rfl (g := (mkF m 22 #[.val (.ref a1), .val (.int p2), .val (.int p3), .val (.int p4), .val (.int p5), .val (.int p6)] [(.int p5), (.ref a1)])) rfl rfl (hb hby d1_22)
  have Fw11 := ((((F_blocksAcross_a1.keep (own_kp g7) nin0).other W8 (Or.inr (slot_ne (Or.inr (hw _ (List.mem_of_getElem? (i := 22) rfl))) (Or.inr (hw _ (List.mem_of_getElem? (i := 16) rfl))) (by decide) (t := .int) (t' := .boolean) (by decide) (by decide)))).other W9 (Or.inr (slot_ne (Or.inr (hw _ (List.mem_of_getElem? (i := 22) rfl))) (Or.inr (hw _ (List.mem_of_getElem? (i := 18) rfl))) (by decide) (t := .int) (t' := .int) (by decide) (by decide)))).other W10 (Or.inr (slot_ne (Or.inr (hw _ (List.mem_of_getElem? (i := 22) rfl))) (Or.inr (hw _ (List.mem_of_getElem? (i := 20) rfl))) (by decide) (t := .int) (t' := .int) (by decide) (by decide)))).same W11
  have K11 : Keep h0 h11 [a1] := K10.wr W11 (Or.inl (List.mem_of_getElem? (i := 0) rfl))
  have N11 := Fr.snoc X11 N10 g_a1
  obtain ⟨T12, h12, X12, e12, W12, st12⟩ := putF X11 hx hZ hown (host := "") (Or.inl (hw _ (List.mem_of_getElem? (i := 23) rfl))) Via.refl e11 (((((F_blocksDown_a1.keep (own_kp g7) nin0).other W8 (Or.inr (slot_ne (Or.inr (hw _ (List.mem_of_getElem? (i := 24) rfl))) (Or.inr (hw _ (List.mem_of_getElem? (i := 16) rfl))) (by decide) (t := .int) (t' := .boolean) (by decide) (by decide)))).other W9 (Or.inr (slot_ne (Or.inr (hw _ (List.mem_of_getElem? (i := 24) rfl))) (Or.inr (hw _ (List.mem_of_getElem? (i := 18) rfl))) (by decide) (t := .int) (t' := .int) (by decide) (by decide)))).other W10 (Or.inr (slot_ne (Or.inr (hw _ (List.mem_of_getElem? (i := 24) rfl))) (Or.inr (hw _ (List.mem_of_getElem? (i := 20) rfl))) (by decide) (t := .int) (t' := .int) (by decide) (by decide)))).other W11 (Or.inr (slot_ne (Or.inr (hw _ (List.mem_of_getElem? (i := 24) rfl))) (Or.inr (hw _ (List.mem_of_getElem? (i := 22) rfl))) (by decide) (t := .int) (t' := .int) (by decide) (by decide)))) (((((E_a1.keep (own_kp g7)).wr W8).wr W9).wr W10).wr W11) (Or.inr ⟨(hw _ (List.mem_of_getElem? (i := 24) rfl)), rfl, hnm⟩) (hw _ (List.mem_of_getElem? (i := 2) rfl)) (ty := .int) (by decide) rfl rfl (g := (mkF m 28 #[.val (.ref a1), .val (.int p2), .val (.int p3), .val (.int p4), .val (.int p5), .val (.int p6)] [(.int p6), (.ref a1)])) rfl rfl (hb hby d1_28)
  have Fw12 := (((((F_blocksDown_a1.keep (own_kp g7) nin0).other W8 (Or.inr (slot_ne (Or.inr (hw _ (List.mem_of_getElem? (i := 24) rfl))) (Or.inr (hw _ (List.mem_of_getElem? (i := 16) rfl))) (by decide) (t := .int) (t' := .boolean) (by decide) (by decide)))).other W9 (Or.inr (slot_ne (Or.inr (hw _ (List.mem_of_getElem? (i := 24) rfl))) (Or.inr (hw _ (List.mem_of_getElem? (i := 18) rfl))) (by decide) (t := .int) (t' := .int) (by decide) (by decide)))).other W10 (Or.inr (slot_ne (Or.inr (hw _ (List.mem_of_getElem? (i := 24) rfl))) (Or.inr (hw _ (List.mem_of_getElem? (i := 20) rfl))) (by decide) (t := .int) (t' := .int) (by decide) (by decide)))).other W11 (Or.inr (slot_ne (Or.inr (hw _ (List.mem_of_getElem? (i := 24) rfl))) (Or.inr (hw _ (List.mem_of_getElem? (i := 22) rfl))) (by decide) (t := .int) (t' := .int) (by decide) (by decide)))).same W12
  have K12 : Keep h0 h12 [a1] := K11.wr W12 (Or.inl (List.mem_of_getElem? (i := 0) rfl))
  have N12 := Fr.snoc X12 N11 g_a1
  obtain ⟨fs, hr, hrun, hended, hW, hsame⟩ := X12.leave (v := none) (fun _ => rfl)
  refine ⟨_, _, pre0 _ ?_, hrun, hended, _, _, rfl, ?_, ⟨_, rfl⟩, hW, hsame.mono (by decide) (by decide)⟩
  · show Steps p.tables e below (s₁.setTop (mkF m 0 #[.val (.ref a1), .val (.int p2), .val (.int p3), .val (.int p4), .val (.int p5), .val (.int p6)] [])) _
    refine XS.aloadN X0.here hx rfl (hb hby d1_0) rfl rfl ?_
    show Steps p.tables e below (s₁.setTop (mkF m 1 #[.val (.ref a1), .val (.int p2), .val (.int p3), .val (.int p4), .val (.int p5), .val (.int p6)] [(.ref a1)])) _
    refine st7.trans ?_
    show Steps p.tables e below (T7.setTop (mkF m 4 #[.val (.ref a1), .val (.int p2), .val (.int p3), .val (.int p4), .val (.int p5), .val (.int p6)] [])) _
    refine XS.aloadN X7.here hx rfl (hb hby d1_4) rfl rfl ?_
    show Steps p.tables e below (T7.setTop (mkF m 5 #[.val (.ref a1), .val (.int p2), .val (.int p3), .val (.int p4), .val (.int p5), .val (.int p6)] [(.ref a1)])) _
    refine XS.iloadN X7.here hx rfl (hb hby d1_5) rfl ?_
    show Steps p.tables e below (T7.setTop (mkF m 6 #[.val (.ref a1), .val (.int p2), .val (.int p3), .val (.int p4), .val (.int p5), .val (.int p6)] [(.int p2), (.ref a1)])) _
    refine st8 _ ?_
    show Steps p.tables e below (T8.setTop (mkF m 9 #[.val (.ref a1), .val (.int p2), .val (.int p3), .val (.int p4), .val (.int p5), .val (.int p6)] [])) _
    refine XS.aloadN X8.here hx rfl (hb hby d1_9) rfl rfl ?_
    show Steps p.tables e below (T8.setTop (mkF m 10 #[.val (.ref a1), .val (.int p2), .val (.int p3), .val (.int p4), .val (.int p5), .val (.int p6)] [(.ref a1)])) _
    refine XS.iloadN X8.here hx rfl (hb hby d1_10) rfl ?_
    show Steps p.tables e below (T8.setTop (mkF m 11 #[.val (.ref a1), .val (.int p2), .val (.int p3), .val (.int p4), .val (.int p5), .val (.int p6)] [(.int p3), (.ref a1)])) _
    refine st9 _ ?_
    show Steps p.tables e below (T9.setTop (mkF m 14 #[.val (.ref a1), .val (.int p2), .val (.int p3), .val (.int p4), .val (.int p5), .val (.int p6)] [])) _
    refine XS.aloadN X9.here hx rfl (hb hby d1_14) rfl rfl ?_
    show Steps p.tables e below (T9.setTop (mkF m 15 #[.val (.ref a1), .val (.int p2), .val (.int p3), .val (.int p4), .val (.int p5), .val (.int p6)] [(.ref a1)])) _
    refine XS.iloadN X9.here hx rfl (hb hby d1_15) rfl ?_
    show Steps p.tables e below (T9.setTop (mkF m 16 #[.val (.ref a1), .val (.int p2), .val (.int p3), .val (.int p4), .val (.int p5), .val (.int p6)] [(.int p4), (.ref a1)])) _
    refine st10 _ ?_
    show Steps p.tables e below (T10.setTop (mkF m 19 #[.val (.ref a1), .val (.int p2), .val (.int p3), .val (.int p4), .val (.int p5), .val (.int p6)] [])) _
    refine XS.aloadN X10.here hx rfl (hb hby d1_19) rfl rfl ?_
    show Steps p.tables e below (T10.setTop (mkF m 20 #[.val (.ref a1), .val (.int p2), .val (.int p3), .val (.int p4), .val (.int p5), .val (.int p6)] [(.ref a1)])) _
    refine XS.iload X10.here hx rfl (hb hby d1_20) rfl ?_
    show Steps p.tables e below (T10.setTop (mkF m 22 #[.val (.ref a1), .val (.int p2), .val (.int p3), .val (.int p4), .val (.int p5), .val (.int p6)] [(.int p5), (.ref a1)])) _
    refine st11 _ ?_
    show Steps p.tables e below (T11.setTop (mkF m 25 #[.val (.ref a1), .val (.int p2), .val (.int p3), .val (.int p4), .val (.int p5), .val (.int p6)] [])) _
    refine XS.aloadN X11.here hx rfl (hb hby d1_25) rfl rfl ?_
    show Steps p.tables e below (T11.setTop (mkF m 26 #[.val (.ref a1), .val (.int p2), .val (.int p3), .val (.int p4), .val (.int p5), .val (.int p6)] [(.ref a1)])) _
    refine XS.iload X11.here hx rfl (hb hby d1_26) rfl ?_
    show Steps p.tables e below (T11.setTop (mkF m 28 #[.val (.ref a1), .val (.int p2), .val (.int p3), .val (.int p4), .val (.int p5), .val (.int p6)] [(.int p6), (.ref a1)])) _
    refine st12 _ ?_
    show Steps p.tables e below (T12.setTop (mkF m 31 #[.val (.ref a1), .val (.int p2), .val (.int p3), .val (.int p4), .val (.int p5), .val (.int p6)] [])) _
    exact X12.returnOut hx Bd.returns (hb hby d1_31) hr
  · show Q1 Z a1 p2 p3 p4 p5 p6 u_tiled_a1 u_blockWidth_a1 u_blockHeight_a1 u_blocksAcross_a1 u_blocksDown_a1 h0 n0 _ T12.heap _
    rw [e12]
    exact ⟨rfl, N12, K12, ((((((E_a1.keep (own_kp g7)).wr W8).wr W9).wr W10).wr W11).wr W12), (Fw11.other W12 (Or.inr (slot_ne (Or.inr (hw _ (List.mem_of_getElem? (i := 22) rfl))) (Or.inr (hw _ (List.mem_of_getElem? (i := 24) rfl))) (by decide) (t := .int) (t' := .int) (by decide) (by decide)))), Fw12⟩
theorem d5_0 : decode prog_41_method_15_code 0 = .ok (.aload_n 0, 1) := by decide +kernel
theorem d5_1 : decode prog_41_method_15_code 1 = .ok (.getfield 23, 3) := by decide +kernel
theorem d5_4 : decode prog_41_method_15_code 4 = .ok (.ireturn, 1) := by decide +kernel
theorem pn_5 : plainName "com/example/tilecairn/tilecairn/tiff/Layout" = true := by first | (simp [plainName, overriddenIn]; done) | decide +kernel
theorem ef_5 (m : MethodId) (x0 : Addr) : entryFrame m #[(.ref x0)] 1 = mkF m 0 #[.val (.ref x0)] [] := by first | (simp [entryFrame, mkF, argsToLocals, Value.category]; done) | rfl
def Q5 (Z : State) (a1 : Addr) (w2 : Int32) (h0 : Heap) (n0 : Nat) (v : Option Value) (h : Heap) (L : List Loc) : Prop := v = some (.int w2) ∧ Fr n0 L ∧ h = h0
set_option maxRecDepth 65536 in
set_option maxHeartbeats 40000000 in
theorem rm5 (l : Launch) (Z : State) (a0 : Array Value) (hw : ∀ d ∈ tables_1, d.before a0 Z = true) (ws : List Jvm.Cond) (a1 : Addr) (w2 : Int32) (h0 : Heap) (n0 : Nat) (Z0 : n0 ≤ h0.size) (F_blocksDown_a1 : Fld Z h0 a1 "com/example/tilecairn/tilecairn/tiff/Layout" "blocksDown" "I" (.int w2)) :
    MetFree l (⟨"com/example/tilecairn/tilecairn/tiff/Layout", "blocksDown", "()I"⟩ : MethodName) (head1 (Jvm.Cond.code (⟨"com/example/tilecairn/tilecairn/tiff/Layout", "blocksDown", "()I"⟩ : MethodName) prog_41_method_15_code 1 (some .int) :: ws) ({ frames := 0, cells := 0, slots := 0, locals := 0 } : Room)) (fun a U => a = #[(.ref a1)] ∧ Z.Warmed39 U.vm ∧ U.heap = h0) (fun _ _ _ _ _ => True) (fun _ U o U' => ∃ v L, o = .returned v ∧ Q5 Z a1 w2 h0 n0 v U'.heap L ∧ FrameEnd U o U' L ({ frames := 0, cells := 0, slots := 0, locals := 0 } : Room).cells ({ frames := 0, cells := 0, slots := 0, locals := 0 } : Room).slots) := by
  refine MetFree.of_bodySF (plainFor_of_name pn_5) hisR ?_
  intro p e s m args below meth c s₁ Bd hml0 hP hK
  obtain ⟨rfl, hZ, hh⟩ := hP
  have hx := Bd.exec
  have hby := Bd.bytes
  have hml : c.maxLocals = 1 := hml0
  have hown : s.vm.findClass "com/example/tilecairn/tilecairn/tiff/Layout" = some m.cls := findClass_of_methodNamed Bd.named
  have hnm := (name_of_methodNamed Bd.named Bd.method).1
  have X0 : Stand p l e ({ frames := 0, cells := 0, slots := 0, locals := 0 } : Room) s m #[(.ref a1)] below meth c s₁ [] 0 0 := Stand.of_body Bd
  have e0 : s₁.heap = h0 := by rw [← hh, Bd.state]; rfl
  have N0 := Fr.nil n0
  have pre0 : ∀ t, Steps p.tables e below (s₁.setTop (mkF m 0 #[.val (.ref a1)] [])) t → Steps p.tables e below (s₁.setTop (entryFrame m #[(.ref a1)] 1)) t := fun t k => castTop (ef_5 m a1) k
  obtain ⟨T3, X3, e3, st3⟩ := getF X0 hx hZ hown (host := "") (Or.inl (hw _ (List.mem_of_getElem? (i := 23) rfl))) Via.refl e0 F_blocksDown_a1 (g := (mkF m 1 #[.val (.ref a1)] [(.ref a1)])) rfl rfl (hb hby d5_1)
  obtain ⟨fs, hr, hrun, hended, hW, hsame⟩ := X3.leave (v := some (.int w2)) (fun h => by rw [Bd.returns] at h; cases h)
  refine ⟨_, _, pre0 _ ?_, hrun, hended, _, _, rfl, ?_, ⟨_, rfl⟩, hW, hsame.mono (by decide) (by decide)⟩
  · show Steps p.tables e below (s₁.setTop (mkF m 0 #[.val (.ref a1)] [])) _
    refine XS.aloadN X0.here hx rfl (hb hby d5_0) rfl rfl ?_
    show Steps p.tables e below (s₁.setTop (mkF m 1 #[.val (.ref a1)] [(.ref a1)])) _
    refine st3 _ ?_
    show Steps p.tables e below (T3.setTop (mkF m 4 #[.val (.ref a1)] [(.int w2)])) _
    exact retI X3 hx Bd.returns (hb hby d5_4) hr
  · show Q5 Z a1 w2 h0 n0 _ T3.heap _
    rw [e3]
    exact ⟨rfl, N0, rfl⟩
theorem d13_0 : decode prog_41_method_14_code 0 = .ok (.aload_n 0, 1) := by decide +kernel
theorem d13_1 : decode prog_41_method_14_code 1 = .ok (.getfield 20, 3) := by decide +kernel
theorem d13_4 : decode prog_41_method_14_code 4 = .ok (.ireturn, 1) := by decide +kernel
theorem pn_13 : plainName "com/example/tilecairn/tilecairn/tiff/Layout" = true := by first | (simp [plainName, overriddenIn]; done) | decide +kernel
theorem ef_13 (m : MethodId) (x0 : Addr) : entryFrame m #[(.ref x0)] 1 = mkF m 0 #[.val (.ref x0)] [] := by first | (simp [entryFrame, mkF, argsToLocals, Value.category]; done) | rfl
def Q13 (Z : State) (a1 : Addr) (w2 : Int32) (h0 : Heap) (n0 : Nat) (v : Option Value) (h : Heap) (L : List Loc) : Prop := v = some (.int w2) ∧ Fr n0 L ∧ h = h0
set_option maxRecDepth 65536 in
set_option maxHeartbeats 40000000 in
theorem rm13 (l : Launch) (Z : State) (a0 : Array Value) (hw : ∀ d ∈ tables_1, d.before a0 Z = true) (ws : List Jvm.Cond) (a1 : Addr) (w2 : Int32) (h0 : Heap) (n0 : Nat) (Z0 : n0 ≤ h0.size) (F_blocksAcross_a1 : Fld Z h0 a1 "com/example/tilecairn/tilecairn/tiff/Layout" "blocksAcross" "I" (.int w2)) :
    MetFree l (⟨"com/example/tilecairn/tilecairn/tiff/Layout", "blocksAcross", "()I"⟩ : MethodName) (head1 (Jvm.Cond.code (⟨"com/example/tilecairn/tilecairn/tiff/Layout", "blocksAcross", "()I"⟩ : MethodName) prog_41_method_14_code 1 (some .int) :: ws) ({ frames := 0, cells := 0, slots := 0, locals := 0 } : Room)) (fun a U => a = #[(.ref a1)] ∧ Z.Warmed39 U.vm ∧ U.heap = h0) (fun _ _ _ _ _ => True) (fun _ U o U' => ∃ v L, o = .returned v ∧ Q13 Z a1 w2 h0 n0 v U'.heap L ∧ FrameEnd U o U' L ({ frames := 0, cells := 0, slots := 0, locals := 0 } : Room).cells ({ frames := 0, cells := 0, slots := 0, locals := 0 } : Room).slots) := by
  refine MetFree.of_bodySF (plainFor_of_name pn_13) hisR ?_
  intro p e s m args below meth c s₁ Bd hml0 hP hK
  obtain ⟨rfl, hZ, hh⟩ := hP
  have hx := Bd.exec
  have hby := Bd.bytes
  have hml : c.maxLocals = 1 := hml0
  have hown : s.vm.findClass "com/example/tilecairn/tilecairn/tiff/Layout" = some m.cls := findClass_of_methodNamed Bd.named
  have hnm := (name_of_methodNamed Bd.named Bd.method).1
  have X0 : Stand p l e ({ frames := 0, cells := 0, slots := 0, locals := 0 } : Room) s m #[(.ref a1)] below meth c s₁ [] 0 0 := Stand.of_body Bd
  have e0 : s₁.heap = h0 := by rw [← hh, Bd.state]; rfl
  have N0 := Fr.nil n0
  have pre0 : ∀ t, Steps p.tables e below (s₁.setTop (mkF m 0 #[.val (.ref a1)] [])) t → Steps p.tables e below (s₁.setTop (entryFrame m #[(.ref a1)] 1)) t := fun t k => castTop (ef_13 m a1) k
  obtain ⟨T3, X3, e3, st3⟩ := getF X0 hx hZ hown (host := "") (Or.inl (hw _ (List.mem_of_getElem? (i := 21) rfl))) Via.refl e0 F_blocksAcross_a1 (g := (mkF m 1 #[.val (.ref a1)] [(.ref a1)])) rfl rfl (hb hby d13_1)
  obtain ⟨fs, hr, hrun, hended, hW, hsame⟩ := X3.leave (v := some (.int w2)) (fun h => by rw [Bd.returns] at h; cases h)
  refine ⟨_, _, pre0 _ ?_, hrun, hended, _, _, rfl, ?_, ⟨_, rfl⟩, hW, hsame.mono (by decide) (by decide)⟩
  · show Steps p.tables e below (s₁.setTop (mkF m 0 #[.val (.ref a1)] [])) _
    refine XS.aloadN X0.here hx rfl (hb hby d13_0) rfl rfl ?_
    show Steps p.tables e below (s₁.setTop (mkF m 1 #[.val (.ref a1)] [(.ref a1)])) _
    refine st3 _ ?_
    show Steps p.tables e below (T3.setTop (mkF m 4 #[.val (.ref a1)] [(.int w2)])) _
    exact retI X3 hx Bd.returns (hb hby d13_4) hr
  · show Q13 Z a1 w2 h0 n0 _ T3.heap _
    rw [e3]
    exact ⟨rfl, N0, rfl⟩
theorem d10_9 : decode jdk_29_method_69_code 9 = .ok (.iload_n 1, 1) := by decide +kernel
theorem d10_0 : decode jdk_29_method_69_code 0 = .ok (.iload_n 0, 1) := by decide +kernel
theorem d10_1 : decode jdk_29_method_69_code 1 = .ok (.iload_n 1, 1) := by decide +kernel
theorem d10_2 : decode jdk_29_method_69_code 2 = .ok (.if_icmp .gt 7, 3) := by decide +kernel
theorem d10_5 : decode jdk_29_method_69_code 5 = .ok (.iload_n 0, 1) := by decide +kernel
theorem d10_6 : decode jdk_29_method_69_code 6 = .ok (.goto 4, 3) := by decide +kernel
theorem d10_10 : decode jdk_29_method_69_code 10 = .ok (.ireturn, 1) := by decide +kernel
theorem ef_10 (m : MethodId) (x0 : Int32) (x1 : Int32) : entryFrame m #[(.int x0), (.int x1)] 2 = mkF m 0 #[.val (.int x0), .val (.int x1)] [] := by first | (simp [entryFrame, mkF, argsToLocals, Value.category]; done) | rfl
def Q10 (Z : State) (p1 : Int32) (p2 : Int32) (h0 : Heap) (n0 : Nat) (v : Option Value) (h : Heap) (L : List Loc) : Prop := v = some (.int (own_min p1 p2)) ∧ Fr n0 L ∧ h = h0
set_option maxRecDepth 65536 in
set_option maxHeartbeats 40000000 in
theorem rm10 (l : Launch) (Z : State) (a0 : Array Value) (hw : ∀ d ∈ tables_1, d.before a0 Z = true) (ws : List Jvm.Cond) (p1 : Int32) (p2 : Int32) (h0 : Heap) (n0 : Nat) (Z0 : n0 ≤ h0.size) :
    MetFree l (⟨"java/lang/Math", "min", "(II)I"⟩ : MethodName) (head1 (Jvm.Cond.code (⟨"java/lang/Math", "min", "(II)I"⟩ : MethodName) jdk_29_method_69_code 2 (some .int) :: ws) ({ frames := 0, cells := 0, slots := 0, locals := 0 } : Room)) (fun a U => a = #[(.int p1), (.int p2)] ∧ Z.Warmed39 U.vm ∧ U.heap = h0) (fun _ _ _ _ _ => True) (fun _ U o U' => ∃ v L, o = .returned v ∧ Q10 Z p1 p2 h0 n0 v U'.heap L ∧ FrameEnd U o U' L ({ frames := 0, cells := 0, slots := 0, locals := 0 } : Room).cells ({ frames := 0, cells := 0, slots := 0, locals := 0 } : Room).slots) := by
  refine MetFree.of_bodySF (Jvm.Free.JP.mathPlain rfl (by decide +kernel)) hisR ?_
  intro p e s m args below meth c s₁ Bd hml0 hP hK
  obtain ⟨rfl, hZ, hh⟩ := hP
  have hx := Bd.exec
  have hby := Bd.bytes
  have hml : c.maxLocals = 2 := hml0
  have hown : s.vm.findClass "java/lang/Math" = some m.cls := findClass_of_methodNamed Bd.named
  have hnm := (name_of_methodNamed Bd.named Bd.method).1
  have X0 : Stand p l e ({ frames := 0, cells := 0, slots := 0, locals := 0 } : Room) s m #[(.int p1), (.int p2)] below meth c s₁ [] 0 0 := Stand.of_body Bd
  have e0 : s₁.heap = h0 := by rw [← hh, Bd.state]; rfl
  have N0 := Fr.nil n0
  have pre0 : ∀ t, Steps p.tables e below (s₁.setTop (mkF m 0 #[.val (.int p1), .val (.int p2)] [])) t → Steps p.tables e below (s₁.setTop (entryFrame m #[(.int p1), (.int p2)] 2)) t := fun t k => castTop (ef_10 m p1 p2) k
  by_cases hc2 : p2 < p1
  · have hc2_1 : p2 < p1 := hc2
    have st_1p : ∀ target, Steps p.tables e below (s₁.setTop (mkF m 10 #[.val (.int p1), .val (.int p2)] [(.int p2)])) target → Steps p.tables e below (s₁.setTop (mkF m 0 #[.val (.int p1), .val (.int p2)] [])) target := by
      intro target kt
      show Steps p.tables e below (s₁.setTop (mkF m 0 #[.val (.int p1), .val (.int p2)] [])) _
      refine XS.iloadN X0.here hx rfl (hb hby d10_0) rfl ?_
      show Steps p.tables e below (s₁.setTop (mkF m 1 #[.val (.int p1), .val (.int p2)] [(.int p1)])) _
      refine XS.iloadN X0.here hx rfl (hb hby d10_1) rfl ?_
      show Steps p.tables e below (s₁.setTop (mkF m 2 #[.val (.int p1), .val (.int p2)] [(.int p2), (.int p1)])) _
      refine XS.icmpYes X0.here hx rfl (pc0 := 2) (pc' := 9) rfl (hb hby d10_2) rfl (tlt hc2_1).2.2.1 (by decide) (by decide) ?_
      show Steps p.tables e below (s₁.setTop (mkF m 9 #[.val (.int p1), .val (.int p2)] [])) _
      refine XS.iloadN X0.here hx rfl (hb hby d10_9) rfl ?_
      exact kt
    obtain ⟨fs, hr, hrun, hended, hW, hsame⟩ := X0.leave (v := some (.int p2)) (fun h => by rw [Bd.returns] at h; cases h)
    refine ⟨_, _, pre0 _ ?_, hrun, hended, _, _, rfl, ?_, ⟨_, rfl⟩, hW, hsame.mono (by decide) (by decide)⟩
    · show Steps p.tables e below (s₁.setTop (mkF m 0 #[.val (.int p1), .val (.int p2)] [])) _
      refine st_1p _ ?_
      exact retI X0 hx Bd.returns (hb hby d10_10) hr
    · show Q10 Z p1 p2 h0 n0 _ s₁.heap _
      rw [e0]
      exact ⟨by simp [own_min, hc2], N0, rfl⟩
  · have hc2_2 : ¬ (p2 < p1) := hc2
    have st_2p : ∀ target, Steps p.tables e below (s₁.setTop (mkF m 10 #[.val (.int p1), .val (.int p2)] [(.int p1)])) target → Steps p.tables e below (s₁.setTop (mkF m 0 #[.val (.int p1), .val (.int p2)] [])) target := by
      intro target kt
      show Steps p.tables e below (s₁.setTop (mkF m 0 #[.val (.int p1), .val (.int p2)] [])) _
      refine XS.iloadN X0.here hx rfl (hb hby d10_0) rfl ?_
      show Steps p.tables e below (s₁.setTop (mkF m 1 #[.val (.int p1), .val (.int p2)] [(.int p1)])) _
      refine XS.iloadN X0.here hx rfl (hb hby d10_1) rfl ?_
      show Steps p.tables e below (s₁.setTop (mkF m 2 #[.val (.int p1), .val (.int p2)] [(.int p2), (.int p1)])) _
      refine XS.icmpNo X0.here hx rfl (hb hby d10_2) rfl (flt hc2_2).2.2.1 ?_
      show Steps p.tables e below (s₁.setTop (mkF m 5 #[.val (.int p1), .val (.int p2)] [])) _
      refine XS.iloadN X0.here hx rfl (hb hby d10_5) rfl ?_
      show Steps p.tables e below (s₁.setTop (mkF m 6 #[.val (.int p1), .val (.int p2)] [(.int p1)])) _
      refine XS.goto X0.here hx rfl (pc0 := 6) (pc' := 10) rfl (hb hby d10_6) (by decide) (by decide) ?_
      exact kt
    obtain ⟨fs, hr, hrun, hended, hW, hsame⟩ := X0.leave (v := some (.int p1)) (fun h => by rw [Bd.returns] at h; cases h)
    refine ⟨_, _, pre0 _ ?_, hrun, hended, _, _, rfl, ?_, ⟨_, rfl⟩, hW, hsame.mono (by decide) (by decide)⟩
    · show Steps p.tables e below (s₁.setTop (mkF m 0 #[.val (.int p1), .val (.int p2)] [])) _
      refine st_2p _ ?_
      exact retI X0 hx Bd.returns (hb hby d10_10) hr
    · show Q10 Z p1 p2 h0 n0 _ s₁.heap _
      rw [e0]
      exact ⟨by simp [own_min, hc2], N0, rfl⟩
theorem d6_10 : decode jdk_65_method_103_code 10 = .ok (.aload_n 0, 1) := by decide +kernel
theorem d6_11 : decode jdk_65_method_103_code 11 = .ok (.iload_n 2, 1) := by decide +kernel
theorem d6_12 : decode jdk_65_method_103_code 12 = .ok (.iload_n 1, 1) := by decide +kernel
theorem d6_13 : decode jdk_65_method_103_code 13 = .ok (.iastore, 1) := by decide +kernel
theorem d6_14 : decode jdk_65_method_103_code 14 = .ok (.iinc 2 1, 3) := by decide +kernel
theorem d6_17 : decode jdk_65_method_103_code 17 = .ok (.goto (-12), 3) := by decide +kernel
theorem d6_0 : decode jdk_65_method_103_code 0 = .ok (.iconst 0, 1) := by decide +kernel
theorem d6_1 : decode jdk_65_method_103_code 1 = .ok (.istore_n 2, 1) := by decide +kernel
theorem d6_2 : decode jdk_65_method_103_code 2 = .ok (.aload_n 0, 1) := by decide +kernel
theorem d6_3 : decode jdk_65_method_103_code 3 = .ok (.arraylength, 1) := by decide +kernel
theorem d6_4 : decode jdk_65_method_103_code 4 = .ok (.istore_n 3, 1) := by decide +kernel
theorem d6_5 : decode jdk_65_method_103_code 5 = .ok (.iload_n 2, 1) := by decide +kernel
theorem d6_6 : decode jdk_65_method_103_code 6 = .ok (.iload_n 3, 1) := by decide +kernel
theorem d6_7 : decode jdk_65_method_103_code 7 = .ok (.if_icmp .ge 13, 3) := by decide +kernel
theorem d6_20 : decode jdk_65_method_103_code 20 = .ok (.return_, 1) := by decide +kernel
theorem pn_6 : plainName "java/util/Arrays" = true := by first | (simp [plainName, overriddenIn]; done) | decide +kernel
theorem ef_6 (m : MethodId) (x0 : Addr) (x1 : Int32) : entryFrame m #[(.ref x0), (.int x1)] 4 = mkF m 0 #[.val (.ref x0), .val (.int x1), .unset, .unset] [] := by first | (simp [entryFrame, mkF, argsToLocals, Value.category]; done) | rfl
def Q6 (Z : State) (a1 : Addr) (p2 : Int32) (k : ClassId) (x y : Int32) (h0 : Heap) (n0 : Nat) (v : Option Value) (h : Heap) (L : List Loc) : Prop := v = none ∧ Fr n0 L ∧ Keep h0 h [a1] ∧ Arv Z h a1 k .int (2 : Int32) [.int p2, .int p2] (.int 0)
set_option maxRecDepth 65536 in
set_option maxHeartbeats 40000000 in
theorem rm6 (l : Launch) (Z : State) (a0 : Array Value) (hw : ∀ d ∈ tables_1, d.before a0 Z = true) (ws : List Jvm.Cond) (a1 : Addr) (p2 : Int32) (k : ClassId) (x y : Int32) (h0 : Heap) (n0 : Nat) (Z0 : n0 ≤ h0.size) (V : Arv Z h0 a1 k .int (2 : Int32) [.int x, .int y] (.int 0)) (ga : n0 ≤ a1) :
    MetFree l (⟨"java/util/Arrays", "fill", "([II)V"⟩ : MethodName) (head1 (Jvm.Cond.code (⟨"java/util/Arrays", "fill", "([II)V"⟩ : MethodName) jdk_65_method_103_code 4 none :: ws) ({ frames := 0, cells := 0, slots := 0, locals := 0 } : Room)) (fun a U => a = #[(.ref a1), (.int p2)] ∧ Z.Warmed39 U.vm ∧ U.heap = h0) (fun _ _ _ _ _ => True) (fun _ U o U' => ∃ v L, o = .returned v ∧ Q6 Z a1 p2 k x y h0 n0 v U'.heap L ∧ FrameEnd U o U' L ({ frames := 0, cells := 0, slots := 0, locals := 0 } : Room).cells ({ frames := 0, cells := 0, slots := 0, locals := 0 } : Room).slots) := by
  refine MetFree.of_bodySF (plainFor_of_name pn_6) hisR ?_
  intro p e s m args below meth c s₁ Bd hml0 hP hK
  obtain ⟨rfl, hZ, hh⟩ := hP
  have hx := Bd.exec
  have hby := Bd.bytes
  have hml : c.maxLocals = 4 := hml0
  have hown : s.vm.findClass "java/util/Arrays" = some m.cls := findClass_of_methodNamed Bd.named
  have hnm := (name_of_methodNamed Bd.named Bd.method).1
  have X0 : Stand p l e ({ frames := 0, cells := 0, slots := 0, locals := 0 } : Room) s m #[(.ref a1), (.int p2)] below meth c s₁ [] 0 0 := Stand.of_body Bd
  have e0 : s₁.heap = h0 := by rw [← hh, Bd.state]; rfl
  have N0 := Fr.nil n0
  have pre0 : ∀ t, Steps p.tables e below (s₁.setTop (mkF m 0 #[.val (.ref a1), .val (.int p2), .unset, .unset] [])) t → Steps p.tables e below (s₁.setTop (entryFrame m #[(.ref a1), (.int p2)] 4)) t := fun t k => castTop (ef_6 m a1 p2) k
  obtain ⟨c0, A0, q0, S0, M0, H0, G0⟩ := V
  have st_1p : ∀ target, Steps p.tables e below (s₁.setTop (mkF m 5 #[.val (.ref a1), .val (.int p2), .val (.int (0 : Int32)), .val (.int (2 : Int32))] [])) target → Steps p.tables e below (s₁.setTop (mkF m 0 #[.val (.ref a1), .val (.int p2), .unset, .unset] [])) target := by
    intro target kt
    show Steps p.tables e below (s₁.setTop (mkF m 0 #[.val (.ref a1), .val (.int p2), .unset, .unset] [])) _
    refine XS.iconst X0.here hx rfl (hb hby d6_0) ?_
    show Steps p.tables e below (s₁.setTop (mkF m 1 #[.val (.ref a1), .val (.int p2), .unset, .unset] [(.int (0 : Int32))])) _
    refine XS.istoreN X0.here hx rfl (hb hby d6_1) rfl (l' := #[.val (.ref a1), .val (.int p2), .val (.int (0 : Int32)), .unset]) rfl ?_
    show Steps p.tables e below (s₁.setTop (mkF m 2 #[.val (.ref a1), .val (.int p2), .val (.int (0 : Int32)), .unset] [])) _
    refine XS.aloadN X0.here hx rfl (hb hby d6_2) rfl rfl ?_
    show Steps p.tables e below (s₁.setTop (mkF m 3 #[.val (.ref a1), .val (.int p2), .val (.int (0 : Int32)), .unset] [(.ref a1)])) _
    refine X0.arraylength hx (by rw [e0]; exact A0.1) (State.isArrayOf_alike hZ.alike A0.2.1) (g := (mkF m 3 #[.val (.ref a1), .val (.int p2), .val (.int (0 : Int32)), .unset] [(.ref a1)])) rfl rfl (hb hby d6_3) _ ?_
    rw [len_of S0 M0]
    show Steps p.tables e below (s₁.setTop (mkF m 4 #[.val (.ref a1), .val (.int p2), .val (.int (0 : Int32)), .unset] [(.int (2 : Int32))])) _
    refine XS.istoreN X0.here hx rfl (hb hby d6_4) rfl (l' := #[.val (.ref a1), .val (.int p2), .val (.int (0 : Int32)), .val (.int (2 : Int32))]) rfl ?_
    exact kt
  have hi0 : ¬ ((0 : Int32) < 0 ∨ c0.slots.size ≤ ((0 : Int32)).toNatClampNeg) := inb_of S0 ⟨by decide, by decide⟩
  have hc7_2 : (0 : Int32) < (2 : Int32) := (by decide)
  obtain ⟨T3_2, h3_2, X3_2, e3_2, W3_2, st3_2⟩ := stI X0 hx hZ e0 A0 (j := (0 : Int32)) hi0 (g := (mkF m 13 #[.val (.ref a1), .val (.int p2), .val (.int (0 : Int32)), .val (.int (2 : Int32))] [(.int p2), (.int (0 : Int32)), (.ref a1)])) rfl rfl (hb hby d6_13)
  have N3_2 := Fr.snoc X3_2 N0 ga
  have K3_2 : Keep h0 h3_2 [a1] := (Keep.refl h0 [a1]).wr W3_2 (Or.inl (List.mem_of_getElem? (i := 0) rfl))
  have st_2p : ∀ target, Steps p.tables e below (T3_2.setTop (mkF m 5 #[.val (.ref a1), .val (.int p2), .val (.int ((0 : Int32) + (1 : Int32))), .val (.int (2 : Int32))] [])) target → Steps p.tables e below (s₁.setTop (mkF m 5 #[.val (.ref a1), .val (.int p2), .val (.int (0 : Int32)), .val (.int (2 : Int32))] [])) target := by
    intro target kt
    show Steps p.tables e below (s₁.setTop (mkF m 5 #[.val (.ref a1), .val (.int p2), .val (.int (0 : Int32)), .val (.int (2 : Int32))] [])) _
    refine XS.iloadN X0.here hx rfl (hb hby d6_5) rfl ?_
    show Steps p.tables e below (s₁.setTop (mkF m 6 #[.val (.ref a1), .val (.int p2), .val (.int (0 : Int32)), .val (.int (2 : Int32))] [(.int (0 : Int32))])) _
    refine XS.iloadN X0.here hx rfl (hb hby d6_6) rfl ?_
    show Steps p.tables e below (s₁.setTop (mkF m 7 #[.val (.ref a1), .val (.int p2), .val (.int (0 : Int32)), .val (.int (2 : Int32))] [(.int (2 : Int32)), (.int (0 : Int32))])) _
    refine XS.icmpNo X0.here hx rfl (hb hby d6_7) rfl (tlt hc7_2).2.1 ?_
    show Steps p.tables e below (s₁.setTop (mkF m 10 #[.val (.ref a1), .val (.int p2), .val (.int (0 : Int32)), .val (.int (2 : Int32))] [])) _
    refine XS.aloadN X0.here hx rfl (hb hby d6_10) rfl rfl ?_
    show Steps p.tables e below (s₁.setTop (mkF m 11 #[.val (.ref a1), .val (.int p2), .val (.int (0 : Int32)), .val (.int (2 : Int32))] [(.ref a1)])) _
    refine XS.iloadN X0.here hx rfl (hb hby d6_11) rfl ?_
    show Steps p.tables e below (s₁.setTop (mkF m 12 #[.val (.ref a1), .val (.int p2), .val (.int (0 : Int32)), .val (.int (2 : Int32))] [(.int (0 : Int32)), (.ref a1)])) _
    refine XS.iloadN X0.here hx rfl (hb hby d6_12) rfl ?_
    show Steps p.tables e below (s₁.setTop (mkF m 13 #[.val (.ref a1), .val (.int p2), .val (.int (0 : Int32)), .val (.int (2 : Int32))] [(.int p2), (.int (0 : Int32)), (.ref a1)])) _
    refine st3_2 _ ?_
    show Steps p.tables e below (T3_2.setTop (mkF m 14 #[.val (.ref a1), .val (.int p2), .val (.int (0 : Int32)), .val (.int (2 : Int32))] [])) _
    refine XS.iinc X3_2.here hx rfl (hb hby d6_14) rfl (l' := #[.val (.ref a1), .val (.int p2), .val (.int ((0 : Int32) + (1 : Int32))), .val (.int (2 : Int32))]) rfl ?_
    show Steps p.tables e below (T3_2.setTop (mkF m 17 #[.val (.ref a1), .val (.int p2), .val (.int ((0 : Int32) + (1 : Int32))), .val (.int (2 : Int32))] [])) _
    refine XS.goto X3_2.here hx rfl (pc0 := 17) (pc' := 5) rfl (hb hby d6_17) (by decide) (by decide) ?_
    exact kt
  rw [show ((0 : Int32) + (1 : Int32)) = (1 : Int32) from by decide] at st_2p
  obtain ⟨c1, A1, q1, S1, M1, H1, G1⟩ := Arv.set A0 q0 S0 M0 H0 G0 rfl W3_2 0 (by decide) (Nat.le_of_ble_eq_true rfl)
  have hi1 : ¬ ((1 : Int32) < 0 ∨ c1.slots.size ≤ ((1 : Int32)).toNatClampNeg) := inb_of S1 ⟨by decide, by decide⟩
  have hc7_3 : (1 : Int32) < (2 : Int32) := (by decide)
  obtain ⟨T3_3, h3_3, X3_3, e3_3, W3_3, st3_3⟩ := stI X3_2 hx hZ e3_2 A1 (j := (1 : Int32)) hi1 (g := (mkF m 13 #[.val (.ref a1), .val (.int p2), .val (.int (1 : Int32)), .val (.int (2 : Int32))] [(.int p2), (.int (1 : Int32)), (.ref a1)])) rfl rfl (hb hby d6_13)
  have N3_3 := Fr.snoc X3_3 N3_2 ga
  have K3_3 : Keep h3_2 h3_3 [a1] := (Keep.refl h3_2 [a1]).wr W3_3 (Or.inl (List.mem_of_getElem? (i := 0) rfl))
  have st_3p : ∀ target, Steps p.tables e below (T3_3.setTop (mkF m 5 #[.val (.ref a1), .val (.int p2), .val (.int ((1 : Int32) + (1 : Int32))), .val (.int (2 : Int32))] [])) target → Steps p.tables e below (T3_2.setTop (mkF m 5 #[.val (.ref a1), .val (.int p2), .val (.int (1 : Int32)), .val (.int (2 : Int32))] [])) target := by
    intro target kt
    show Steps p.tables e below (T3_2.setTop (mkF m 5 #[.val (.ref a1), .val (.int p2), .val (.int (1 : Int32)), .val (.int (2 : Int32))] [])) _
    refine XS.iloadN X3_2.here hx rfl (hb hby d6_5) rfl ?_
    show Steps p.tables e below (T3_2.setTop (mkF m 6 #[.val (.ref a1), .val (.int p2), .val (.int (1 : Int32)), .val (.int (2 : Int32))] [(.int (1 : Int32))])) _
    refine XS.iloadN X3_2.here hx rfl (hb hby d6_6) rfl ?_
    show Steps p.tables e below (T3_2.setTop (mkF m 7 #[.val (.ref a1), .val (.int p2), .val (.int (1 : Int32)), .val (.int (2 : Int32))] [(.int (2 : Int32)), (.int (1 : Int32))])) _
    refine XS.icmpNo X3_2.here hx rfl (hb hby d6_7) rfl (tlt hc7_3).2.1 ?_
    show Steps p.tables e below (T3_2.setTop (mkF m 10 #[.val (.ref a1), .val (.int p2), .val (.int (1 : Int32)), .val (.int (2 : Int32))] [])) _
    refine XS.aloadN X3_2.here hx rfl (hb hby d6_10) rfl rfl ?_
    show Steps p.tables e below (T3_2.setTop (mkF m 11 #[.val (.ref a1), .val (.int p2), .val (.int (1 : Int32)), .val (.int (2 : Int32))] [(.ref a1)])) _
    refine XS.iloadN X3_2.here hx rfl (hb hby d6_11) rfl ?_
    show Steps p.tables e below (T3_2.setTop (mkF m 12 #[.val (.ref a1), .val (.int p2), .val (.int (1 : Int32)), .val (.int (2 : Int32))] [(.int (1 : Int32)), (.ref a1)])) _
    refine XS.iloadN X3_2.here hx rfl (hb hby d6_12) rfl ?_
    show Steps p.tables e below (T3_2.setTop (mkF m 13 #[.val (.ref a1), .val (.int p2), .val (.int (1 : Int32)), .val (.int (2 : Int32))] [(.int p2), (.int (1 : Int32)), (.ref a1)])) _
    refine st3_3 _ ?_
    show Steps p.tables e below (T3_3.setTop (mkF m 14 #[.val (.ref a1), .val (.int p2), .val (.int (1 : Int32)), .val (.int (2 : Int32))] [])) _
    refine XS.iinc X3_3.here hx rfl (hb hby d6_14) rfl (l' := #[.val (.ref a1), .val (.int p2), .val (.int ((1 : Int32) + (1 : Int32))), .val (.int (2 : Int32))]) rfl ?_
    show Steps p.tables e below (T3_3.setTop (mkF m 17 #[.val (.ref a1), .val (.int p2), .val (.int ((1 : Int32) + (1 : Int32))), .val (.int (2 : Int32))] [])) _
    refine XS.goto X3_3.here hx rfl (pc0 := 17) (pc' := 5) rfl (hb hby d6_17) (by decide) (by decide) ?_
    exact kt
  rw [show ((1 : Int32) + (1 : Int32)) = (2 : Int32) from by decide] at st_3p
  obtain ⟨c2, A2, q2, S2, M2, H2, G2⟩ := Arv.set A1 q1 S1 M1 H1 G1 rfl W3_3 1 (by decide) (Nat.le_of_ble_eq_true rfl)
  have hc7_4 : ¬ ((2 : Int32) < (2 : Int32)) := (by decide)
  have st_4p : ∀ target, Steps p.tables e below (T3_3.setTop (mkF m 20 #[.val (.ref a1), .val (.int p2), .val (.int (2 : Int32)), .val (.int (2 : Int32))] [])) target → Steps p.tables e below (T3_3.setTop (mkF m 5 #[.val (.ref a1), .val (.int p2), .val (.int (2 : Int32)), .val (.int (2 : Int32))] [])) target := by
    intro target kt
    show Steps p.tables e below (T3_3.setTop (mkF m 5 #[.val (.ref a1), .val (.int p2), .val (.int (2 : Int32)), .val (.int (2 : Int32))] [])) _
    refine XS.iloadN X3_3.here hx rfl (hb hby d6_5) rfl ?_
    show Steps p.tables e below (T3_3.setTop (mkF m 6 #[.val (.ref a1), .val (.int p2), .val (.int (2 : Int32)), .val (.int (2 : Int32))] [(.int (2 : Int32))])) _
    refine XS.iloadN X3_3.here hx rfl (hb hby d6_6) rfl ?_
    show Steps p.tables e below (T3_3.setTop (mkF m 7 #[.val (.ref a1), .val (.int p2), .val (.int (2 : Int32)), .val (.int (2 : Int32))] [(.int (2 : Int32)), (.int (2 : Int32))])) _
    refine XS.icmpYes X3_3.here hx rfl (pc0 := 7) (pc' := 20) rfl (hb hby d6_7) rfl (flt hc7_4).2.1 (by decide) (by decide) ?_
    exact kt
  obtain ⟨fs, hr, hrun, hended, hW, hsame⟩ := X3_3.leave (v := none) (fun _ => rfl)
  refine ⟨_, _, pre0 _ ?_, hrun, hended, _, _, rfl, ?_, ⟨_, rfl⟩, hW, hsame.mono (by decide) (by decide)⟩
  · show Steps p.tables e below (s₁.setTop (mkF m 0 #[.val (.ref a1), .val (.int p2), .unset, .unset] [])) _
    refine st_1p _ ?_
    refine st_2p _ ?_
    refine st_3p _ ?_
    refine st_4p _ ?_
    exact X3_3.returnOut hx Bd.returns (hb hby d6_20) hr
  · show Q6 Z a1 p2 k x y h0 n0 _ T3_3.heap _
    rw [e3_3]
    exact ⟨rfl, N3_3, K3_2.trans K3_3 (allS (Or.inl (List.mem_singleton.mpr rfl)) all0), ⟨c2, A2, q2, S2, M2, H2, G2⟩⟩
theorem d4_0 : decode prog_67_method_1_code 0 = .ok (.aload_n 0, 1) := by decide +kernel
theorem d4_1 : decode prog_67_method_1_code 1 = .ok (.invokespecial 3, 3) := by decide +kernel
theorem d4_4 : decode prog_67_method_1_code 4 = .ok (.aload_n 0, 1) := by decide +kernel
theorem d4_5 : decode prog_67_method_1_code 5 = .ok (.sipush 192, 3) := by decide +kernel
theorem d4_8 : decode prog_67_method_1_code 8 = .ok (.newarray .int, 2) := by decide +kernel
theorem d4_10 : decode prog_67_method_1_code 10 = .ok (.putfield 9, 3) := by decide +kernel
theorem d4_13 : decode prog_67_method_1_code 13 = .ok (.aload_n 0, 1) := by decide +kernel
theorem d4_14 : decode prog_67_method_1_code 14 = .ok (.aload_n 1, 1) := by decide +kernel
theorem d4_15 : decode prog_67_method_1_code 15 = .ok (.putfield 15, 3) := by decide +kernel
theorem d4_18 : decode prog_67_method_1_code 18 = .ok (.aload_n 0, 1) := by decide +kernel
theorem d4_19 : decode prog_67_method_1_code 19 = .ok (.aload_n 1, 1) := by decide +kernel
theorem d4_20 : decode prog_67_method_1_code 20 = .ok (.invokevirtual 19, 3) := by decide +kernel
theorem d4_23 : decode prog_67_method_1_code 23 = .ok (.iconst 1, 1) := by decide +kernel
theorem d4_24 : decode prog_67_method_1_code 24 = .ok (.iadd, 1) := by decide +kernel
theorem d4_25 : decode prog_67_method_1_code 25 = .ok (.newarray .int, 2) := by decide +kernel
theorem d4_27 : decode prog_67_method_1_code 27 = .ok (.putfield 25, 3) := by decide +kernel
theorem d4_30 : decode prog_67_method_1_code 30 = .ok (.aload_n 0, 1) := by decide +kernel
theorem d4_31 : decode prog_67_method_1_code 31 = .ok (.iload_n 2, 1) := by decide +kernel
theorem d4_32 : decode prog_67_method_1_code 32 = .ok (.newarray .int, 2) := by decide +kernel
theorem d4_34 : decode prog_67_method_1_code 34 = .ok (.putfield 28, 3) := by decide +kernel
theorem d4_37 : decode prog_67_method_1_code 37 = .ok (.aload_n 0, 1) := by decide +kernel
theorem d4_38 : decode prog_67_method_1_code 38 = .ok (.iload_n 2, 1) := by decide +kernel
theorem d4_39 : decode prog_67_method_1_code 39 = .ok (.newarray .int, 2) := by decide +kernel
theorem d4_41 : decode prog_67_method_1_code 41 = .ok (.putfield 31, 3) := by decide +kernel
theorem d4_44 : decode prog_67_method_1_code 44 = .ok (.aload_n 0, 1) := by decide +kernel
theorem d4_45 : decode prog_67_method_1_code 45 = .ok (.getfield 31, 3) := by decide +kernel
theorem d4_48 : decode prog_67_method_1_code 48 = .ok (.iconst (-1), 1) := by decide +kernel
theorem d4_49 : decode prog_67_method_1_code 49 = .ok (.invokestatic 34, 3) := by decide +kernel
theorem d4_52 : decode prog_67_method_1_code 52 = .ok (.return_, 1) := by decide +kernel
theorem pn_4 : plainName "com/example/tilecairn/tilecairn/zonal/CoveredBlocks$Builder" = true := by first | (simp [plainName, overriddenIn]; done) | decide +kernel
theorem pd_1 : parseMethodDescriptor "()I" = some ⟨[], some .int⟩ := by decide +kernel
theorem pd_2 : parseMethodDescriptor "([II)V" = some ⟨[(.array .int), .int], none⟩ := by decide +kernel
theorem ef_4 (m : MethodId) (x0 : Addr) (x1 : Addr) (x2 : Int32) : entryFrame m #[(.ref x0), (.ref x1), (.int x2)] 3 = mkF m 0 #[.val (.ref x0), .val (.ref x1), .val (.int x2)] [] := by first | (simp [entryFrame, mkF, argsToLocals, Value.category]; done) | rfl
def Q4 (Z : State) (a1 : Addr) (a2 : Addr) (p3 : Int32) (u_runs_a1 : Value) (u_layout_a1 : Value) (u_starts_a1 : Value) (u_openRun_a1 : Value) (u_openRow_a1 : Value) (h0 : Heap) (n0 : Nat) (v : Option Value) (h : Heap) (L : List Loc) : Prop := v = none ∧ Fr n0 L ∧ n0 ≤ h.size ∧ ∃ ru sa on ow : Addr, (@LT.lt Nat _ a1 ru ∧ @LT.lt Nat _ ru sa ∧ @LT.lt Nat _ sa on ∧ @LT.lt Nat _ on ow) ∧ own_B Z h a2 a1 ru sa on ow 0 0 ([.int 0, .int 0, .int 0, .int 0, .int 0, .int 0]) ([.int 0, .int 0, .int 0, .int 0]) (-1)
set_option maxRecDepth 65536 in
set_option maxHeartbeats 40000000 in
theorem rm4 (l : Launch) (Z : State) (a0 : Array Value) (hw : ∀ d ∈ tables_1, d.before a0 Z = true) (ws : List Jvm.Cond) (a1 : Addr) (a2 : Addr) (p3 : Int32) (u_runs_a1 : Value) (u_layout_a1 : Value) (u_starts_a1 : Value) (u_openRun_a1 : Value) (u_openRow_a1 : Value) (h0 : Heap) (n0 : Nat) (Z0 : n0 ≤ h0.size) (E_a1 : Exa Z h0 a1 "com/example/tilecairn/tilecairn/zonal/CoveredBlocks$Builder") (F_runs_a1 : Fld Z h0 a1 "com/example/tilecairn/tilecairn/zonal/CoveredBlocks$Builder" "runs" "[I" u_runs_a1) (g_a1 : n0 ≤ a1) (F_layout_a1 : Fld Z h0 a1 "com/example/tilecairn/tilecairn/zonal/CoveredBlocks$Builder" "layout" "Lcom/example/tilecairn/tilecairn/tiff/Layout;" u_layout_a1) (E_a2 : Exa Z h0 a2 "com/example/tilecairn/tilecairn/tiff/Layout") (F_starts_a1 : Fld Z h0 a1 "com/example/tilecairn/tilecairn/zonal/CoveredBlocks$Builder" "starts" "[I" u_starts_a1) (F_openRun_a1 : Fld Z h0 a1 "com/example/tilecairn/tilecairn/zonal/CoveredBlocks$Builder" "openRun" "[I" u_openRun_a1) (F_openRow_a1 : Fld Z h0 a1 "com/example/tilecairn/tilecairn/zonal/CoveredBlocks$Builder" "openRow" "[I" u_openRow_a1) (F_ba : Fld Z h0 a2 "com/example/tilecairn/tilecairn/tiff/Layout" "blocksAcross" "I" (.int 4)) (F_bd : Fld Z h0 a2 "com/example/tilecairn/tilecairn/tiff/Layout" "blocksDown" "I" (.int 3)) (F_rc : Fld Z h0 a1 "com/example/tilecairn/tilecairn/zonal/CoveredBlocks$Builder" "runCount" "I" (.int 0)) (F_br : Fld Z h0 a1 "com/example/tilecairn/tilecairn/zonal/CoveredBlocks$Builder" "blockRow" "I" (.int 0)) (hlt : @LT.lt Nat _ a2 a1) (hp3 : p3 = (2 : Int32)) :
    MetFree l (⟨"com/example/tilecairn/tilecairn/zonal/CoveredBlocks$Builder", "<init>", "(Lcom/example/tilecairn/tilecairn/tiff/Layout;I)V"⟩ : MethodName) (head1 (Jvm.Cond.code (⟨"com/example/tilecairn/tilecairn/zonal/CoveredBlocks$Builder", "<init>", "(Lcom/example/tilecairn/tilecairn/tiff/Layout;I)V"⟩ : MethodName) prog_67_method_1_code 3 none :: ws) ({ frames := 1, cells := 4, slots := 200, locals := 15 } : Room)) (fun a U => a = #[(.ref a1), (.ref a2), (.int p3)] ∧ Z.Warmed39 U.vm ∧ U.heap = h0) (fun _ _ _ _ _ => True) (fun _ U o U' => ∃ v L, o = .returned v ∧ Q4 Z a1 a2 p3 u_runs_a1 u_layout_a1 u_starts_a1 u_openRun_a1 u_openRow_a1 h0 n0 v U'.heap L ∧ FrameEnd U o U' L ({ frames := 1, cells := 4, slots := 200, locals := 15 } : Room).cells ({ frames := 1, cells := 4, slots := 200, locals := 15 } : Room).slots) := by
  refine MetFree.of_bodySF (plainFor_of_name pn_4) hisR ?_
  intro p e s m args below meth c s₁ Bd hml0 hP hK
  obtain ⟨rfl, hZ, hh⟩ := hP
  have hx := Bd.exec
  have hby := Bd.bytes
  have hml : c.maxLocals = 3 := hml0
  have hown : s.vm.findClass "com/example/tilecairn/tilecairn/zonal/CoveredBlocks$Builder" = some m.cls := findClass_of_methodNamed Bd.named
  have hnm := (name_of_methodNamed Bd.named Bd.method).1
  have X0 : Stand p l e ({ frames := 1, cells := 4, slots := 200, locals := 15 } : Room) s m #[(.ref a1), (.ref a2), (.int p3)] below meth c s₁ [] 0 0 := Stand.of_body Bd
  have e0 : s₁.heap = h0 := by rw [← hh, Bd.state]; rfl
  have N0 := Fr.nil n0
  have pre0 : ∀ t, Steps p.tables e below (s₁.setTop (mkF m 0 #[.val (.ref a1), .val (.ref a2), .val (.int p3)] [])) t → Steps p.tables e below (s₁.setTop (entryFrame m #[(.ref a1), (.ref a2), (.int p3)] 3)) t := fun t k => castTop (ef_4 m a1 a2 p3) k
  obtain ⟨T4, X4, e4, st4⟩ := initO X0 hx hZ hown (hw _ (List.mem_of_getElem? (i := 31) rfl)) (hw _ (List.mem_of_getElem? (i := 13) rfl)) (hw _ (List.mem_of_getElem? (i := 14) rfl)) e0 (g := (mkF m 1 #[.val (.ref a1), .val (.ref a2), .val (.int p3)] [(.ref a1)])) rfl (by rw [hml]; rfl) rfl (hb hby d4_1) (by decide) (W := 0) (by show 2 * 0 + _ ≤ _; exact Nat.le_of_eq rfl) (by decide)
  obtain ⟨T5, h5, k5, X5, e5, E5, A5, st5⟩ := newP X4 hx hZ (hw _ (List.mem_of_getElem? (i := 32) rfl)) e4 (g := (mkF m 8 #[.val (.ref a1), .val (.ref a2), .val (.int p3)] [(.int (192 : Int32)), (.ref a1)])) rfl (hb hby d4_8) rfl (by decide) (cap := 192) (by decide) (by decide) (by decide) (by decide)
  obtain ⟨b5, g5⟩ : ∃ z, z = h0.size := ⟨_, rfl⟩
  rw [← g5] at A5 st5
  have V_b5 := Arv.new A5 (by decide)
  have g_b5 : n0 ≤ b5 := Nat.le_trans Z0 (Nat.le_of_eq g5.symm)
  have sz_b5 : h0.size ≤ b5 := (Nat.le_trans (Keep.refl h0 [a1]).1 (Nat.le_of_eq g5.symm))
  have K5 : Keep h0 h5 [a1] := (Keep.refl h0 [a1]).ext E5
  obtain ⟨T6, h6, X6, e6, W6, st6⟩ := putF X5 hx hZ hown (host := "") (Or.inl (hw _ (List.mem_of_getElem? (i := 33) rfl))) Via.refl e5 (F_runs_a1.ext E5) (E_a1.ext E5) (Or.inl (hw _ (List.mem_of_getElem? (i := 34) rfl))) (hw _ (List.mem_of_getElem? (i := 26) rfl)) (ty := (.array .int)) (by decide) rfl rfl (g := (mkF m 10 #[.val (.ref a1), .val (.ref a2), .val (.int p3)] [(.ref b5), (.ref a1)])) rfl rfl (hb hby d4_10)
  have Fw6 := (F_runs_a1.ext E5).same W6
  have K6 : Keep h0 h6 [a1] := K5.wr W6 (Or.inl (List.mem_of_getElem? (i := 0) rfl))
  have N6 := Fr.snoc X6 N0 g_a1
  obtain ⟨T7, h7, X7, e7, W7, st7⟩ := putF X6 hx hZ hown (host := "") (Or.inl (hw _ (List.mem_of_getElem? (i := 35) rfl))) Via.refl e6 ((F_layout_a1.ext E5).other W6 (Or.inr (slot_ne (Or.inr (hw _ (List.mem_of_getElem? (i := 36) rfl))) (Or.inl (hw _ (List.mem_of_getElem? (i := 34) rfl))) (by decide) (t := (.object "com/example/tilecairn/tilecairn/tiff/Layout")) (t' := (.array .int)) (by decide) (by decide)))) ((E_a1.ext E5).wr W6) (Or.inr ⟨(hw _ (List.mem_of_getElem? (i := 36) rfl)), rfl, hnm⟩) (hw _ (List.mem_of_getElem? (i := 26) rfl)) (ty := (.object "com/example/tilecairn/tilecairn/tiff/Layout")) (by decide) rfl rfl (g := (mkF m 15 #[.val (.ref a1), .val (.ref a2), .val (.int p3)] [(.ref a2), (.ref a1)])) rfl rfl (hb hby d4_15)
  have Fw7 := ((F_layout_a1.ext E5).other W6 (Or.inr (slot_ne (Or.inr (hw _ (List.mem_of_getElem? (i := 36) rfl))) (Or.inl (hw _ (List.mem_of_getElem? (i := 34) rfl))) (by decide) (t := (.object "com/example/tilecairn/tilecairn/tiff/Layout")) (t' := (.array .int)) (by decide) (by decide)))).same W7
  have K7 : Keep h0 h7 [a1] := K6.wr W7 (Or.inl (List.mem_of_getElem? (i := 0) rfl))
  have N7 := Fr.snoc X7 N6 g_a1
  obtain ⟨cq8, kq8, q8a, q8b, q8c⟩ := isOf hZ e7 (((E_a2.ext E5).wr W6).wr W7)
  obtain ⟨_, _, ⟨T8, L8, k8, n8⟩, -, X8, ⟨Lc8, hQ8, l8, y8, z8⟩, st8⟩ := X7.virtualBack hx (y := (⟨"com/example/tilecairn/tilecairn/tiff/Layout", "blocksDown", "()I"⟩ : MethodName)) (z := (⟨"com/example/tilecairn/tilecairn/tiff/Layout", "blocksDown", "()I"⟩ : MethodName)) hown (mvT hZ (hw _ (List.mem_of_getElem? (i := 37) rfl))) (mvT hZ (hw _ (List.mem_of_getElem? (i := 38) rfl))) (notFace_of_selects (args := #[]) (mvT hZ (hw _ (List.mem_of_getElem? (i := 40) rfl)))) (mvT hZ (hw _ (List.mem_of_getElem? (i := 40) rfl))) (mvT hZ (hw _ (List.mem_of_getElem? (i := 39) rfl))) (by decide) (backOf (W := 1) (rm5 l Z a0 hw [] a2 (3 : Int32) h7 n0 (Nat.le_trans (Nat.le_trans (Nat.le_trans Z0 E5.1) (Keep.of_wr W6).1) (Keep.of_wr W7).1) (((F_bd.ext E5).other W6 (Or.inl (by omega : @Ne Nat a2 a1))).other W7 (Or.inl (by omega : @Ne Nat a2 a1)))) hZ (hw _ (List.mem_of_getElem? (i := 41) rfl)) (hw _ (List.mem_of_getElem? (i := 3) rfl)) (by decide) (by decide)) q8a q8c (g := (mkF m 20 #[.val (.ref a1), .val (.ref a2), .val (.int p3)] [(.ref a2), (.ref a1)])) rfl (by rw [hml]; rfl) (Steps.refl _) (argsL := []) (rest := [(.ref a1)]) (lenOf pd_1 rfl) rfl (by show 2 * 0 + _ ≤ _; exact Nat.le_of_eq rfl) (hb hby d4_20) (fun _ _ => ⟨rfl, e7, (by decide : 1 + 0 ≤ _), (by decide : 192 + 0 ≤ _)⟩)
  dsimp only [Pt.U, Pt.locs, Pt.cells, Pt.slots] at X8 l8 y8 z8 st8 hQ8
  subst l8 y8 z8
  obtain ⟨rfl, N8q, g8⟩ := hQ8
  have N8 := Fr.app N7 N8q
  obtain ⟨T9, h9, k9, X9, e9, E9, A9, st9⟩ := newP X8 hx hZ (hw _ (List.mem_of_getElem? (i := 32) rfl)) rfl (g := (mkF m 25 #[.val (.ref a1), .val (.ref a2), .val (.int p3)] [(.int ((3 : Int32) + (1 : Int32))), (.ref a1)])) rfl (hb hby d4_25) rfl (by decide) (cap := 4) (by decide) (by decide) (by decide) (by decide)
  obtain ⟨b9, g9⟩ : ∃ z, z = T8.heap.size := ⟨_, rfl⟩
  rw [← g9] at A9 st9
  have V_b9 := Arv.new A9 (by decide)
  have g_b9 : n0 ≤ b9 := Nat.le_trans (Nat.le_trans (Nat.le_trans (Nat.le_trans (Nat.le_trans Z0 E5.1) (Keep.of_wr W6).1) (Keep.of_wr W7).1) (own_kp g8).1) (Nat.le_of_eq g9.symm)
  have sz_b9 : h0.size ≤ b9 := (Nat.le_trans (K7.trans (own_kp g8) all0).1 (Nat.le_of_eq g9.symm))
  have K9 : Keep h0 h9 [a1] := (K7.trans (own_kp g8) all0).ext E9
  obtain ⟨T10, h10, X10, e10, W10, st10⟩ := putF X9 hx hZ hown (host := "") (Or.inl (hw _ (List.mem_of_getElem? (i := 42) rfl))) Via.refl e9 (((((F_starts_a1.ext E5).other W6 (Or.inr (slot_ne (Or.inr (hw _ (List.mem_of_getElem? (i := 43) rfl))) (Or.inl (hw _ (List.mem_of_getElem? (i := 34) rfl))) (by decide) (t := (.array .int)) (t' := (.array .int)) (by decide) (by decide)))).other W7 (Or.inr (slot_ne (Or.inr (hw _ (List.mem_of_getElem? (i := 43) rfl))) (Or.inr (hw _ (List.mem_of_getElem? (i := 36) rfl))) (by decide) (t := (.array .int)) (t' := (.object "com/example/tilecairn/tilecairn/tiff/Layout")) (by decide) (by decide)))).keep (own_kp g8) nin0).ext E9) (((((E_a1.ext E5).wr W6).wr W7).keep (own_kp g8)).ext E9) (Or.inr ⟨(hw _ (List.mem_of_getElem? (i := 43) rfl)), rfl, hnm⟩) (hw _ (List.mem_of_getElem? (i := 26) rfl)) (ty := (.array .int)) (by decide) rfl rfl (g := (mkF m 27 #[.val (.ref a1), .val (.ref a2), .val (.int p3)] [(.ref b9), (.ref a1)])) rfl rfl (hb hby d4_27)
  have Fw10 := (((((F_starts_a1.ext E5).other W6 (Or.inr (slot_ne (Or.inr (hw _ (List.mem_of_getElem? (i := 43) rfl))) (Or.inl (hw _ (List.mem_of_getElem? (i := 34) rfl))) (by decide) (t := (.array .int)) (t' := (.array .int)) (by decide) (by decide)))).other W7 (Or.inr (slot_ne (Or.inr (hw _ (List.mem_of_getElem? (i := 43) rfl))) (Or.inr (hw _ (List.mem_of_getElem? (i := 36) rfl))) (by decide) (t := (.array .int)) (t' := (.object "com/example/tilecairn/tilecairn/tiff/Layout")) (by decide) (by decide)))).keep (own_kp g8) nin0).ext E9).same W10
  have K10 : Keep h0 h10 [a1] := K9.wr W10 (Or.inl (List.mem_of_getElem? (i := 0) rfl))
  have N10 := Fr.snoc X10 N8 g_a1
  obtain ⟨T11, h11, k11, X11, e11, E11, A11, st11⟩ := newP X10 hx hZ (hw _ (List.mem_of_getElem? (i := 32) rfl)) e10 (g := (mkF m 32 #[.val (.ref a1), .val (.ref a2), .val (.int p3)] [(.int p3), (.ref a1)])) rfl (hb hby d4_32) rfl (by rw [hp3]; decide) (cap := 2) (by rw [hp3]; decide) (by decide) (by decide) (by decide)
  obtain ⟨b11, g11⟩ : ∃ z, z = h10.size := ⟨_, rfl⟩
  rw [← g11] at A11 st11
  have V_b11 := Arv.new A11 (by rw [hp3]; decide)
  have g_b11 : n0 ≤ b11 := Nat.le_trans (Nat.le_trans (Nat.le_trans (Nat.le_trans (Nat.le_trans (Nat.le_trans (Nat.le_trans Z0 E5.1) (Keep.of_wr W6).1) (Keep.of_wr W7).1) (own_kp g8).1) E9.1) (Keep.of_wr W10).1) (Nat.le_of_eq g11.symm)
  have sz_b11 : h0.size ≤ b11 := (Nat.le_trans K10.1 (Nat.le_of_eq g11.symm))
  have K11 : Keep h0 h11 [a1] := K10.ext E11
  obtain ⟨T12, h12, X12, e12, W12, st12⟩ := putF X11 hx hZ hown (host := "") (Or.inl (hw _ (List.mem_of_getElem? (i := 44) rfl))) Via.refl e11 (((((((F_openRun_a1.ext E5).other W6 (Or.inr (slot_ne (Or.inr (hw _ (List.mem_of_getElem? (i := 45) rfl))) (Or.inl (hw _ (List.mem_of_getElem? (i := 34) rfl))) (by decide) (t := (.array .int)) (t' := (.array .int)) (by decide) (by decide)))).other W7 (Or.inr (slot_ne (Or.inr (hw _ (List.mem_of_getElem? (i := 45) rfl))) (Or.inr (hw _ (List.mem_of_getElem? (i := 36) rfl))) (by decide) (t := (.array .int)) (t' := (.object "com/example/tilecairn/tilecairn/tiff/Layout")) (by decide) (by decide)))).keep (own_kp g8) nin0).ext E9).other W10 (Or.inr (slot_ne (Or.inr (hw _ (List.mem_of_getElem? (i := 45) rfl))) (Or.inr (hw _ (List.mem_of_getElem? (i := 43) rfl))) (by decide) (t := (.array .int)) (t' := (.array .int)) (by decide) (by decide)))).ext E11) (((((((E_a1.ext E5).wr W6).wr W7).keep (own_kp g8)).ext E9).wr W10).ext E11) (Or.inr ⟨(hw _ (List.mem_of_getElem? (i := 45) rfl)), rfl, hnm⟩) (hw _ (List.mem_of_getElem? (i := 26) rfl)) (ty := (.array .int)) (by decide) rfl rfl (g := (mkF m 34 #[.val (.ref a1), .val (.ref a2), .val (.int p3)] [(.ref b11), (.ref a1)])) rfl rfl (hb hby d4_34)
  have Fw12 := (((((((F_openRun_a1.ext E5).other W6 (Or.inr (slot_ne (Or.inr (hw _ (List.mem_of_getElem? (i := 45) rfl))) (Or.inl (hw _ (List.mem_of_getElem? (i := 34) rfl))) (by decide) (t := (.array .int)) (t' := (.array .int)) (by decide) (by decide)))).other W7 (Or.inr (slot_ne (Or.inr (hw _ (List.mem_of_getElem? (i := 45) rfl))) (Or.inr (hw _ (List.mem_of_getElem? (i := 36) rfl))) (by decide) (t := (.array .int)) (t' := (.object "com/example/tilecairn/tilecairn/tiff/Layout")) (by decide) (by decide)))).keep (own_kp g8) nin0).ext E9).other W10 (Or.inr (slot_ne (Or.inr (hw _ (List.mem_of_getElem? (i := 45) rfl))) (Or.inr (hw _ (List.mem_of_getElem? (i := 43) rfl))) (by decide) (t := (.array .int)) (t' := (.array .int)) (by decide) (by decide)))).ext E11).same W12
  have K12 : Keep h0 h12 [a1] := K11.wr W12 (Or.inl (List.mem_of_getElem? (i := 0) rfl))
  have N12 := Fr.snoc X12 N10 g_a1
  obtain ⟨T13, h13, k13, X13, e13, E13, A13, st13⟩ := newP X12 hx hZ (hw _ (List.mem_of_getElem? (i := 32) rfl)) e12 (g := (mkF m 39 #[.val (.ref a1), .val (.ref a2), .val (.int p3)] [(.int p3), (.ref a1)])) rfl (hb hby d4_39) rfl (by rw [hp3]; decide) (cap := 2) (by rw [hp3]; decide) (by decide) (by decide) (by decide)
  obtain ⟨b13, g13⟩ : ∃ z, z = h12.size := ⟨_, rfl⟩
  rw [← g13] at A13 st13
  have V_b13 := Arv.new A13 (by rw [hp3]; decide)
  have g_b13 : n0 ≤ b13 := Nat.le_trans (Nat.le_trans (Nat.le_trans (Nat.le_trans (Nat.le_trans (Nat.le_trans (Nat.le_trans (Nat.le_trans (Nat.le_trans Z0 E5.1) (Keep.of_wr W6).1) (Keep.of_wr W7).1) (own_kp g8).1) E9.1) (Keep.of_wr W10).1) E11.1) (Keep.of_wr W12).1) (Nat.le_of_eq g13.symm)
  have sz_b13 : h0.size ≤ b13 := (Nat.le_trans K12.1 (Nat.le_of_eq g13.symm))
  have K13 : Keep h0 h13 [a1] := K12.ext E13
  obtain ⟨T14, h14, X14, e14, W14, st14⟩ := putF X13 hx hZ hown (host := "") (Or.inl (hw _ (List.mem_of_getElem? (i := 46) rfl))) Via.refl e13 (((((((((F_openRow_a1.ext E5).other W6 (Or.inr (slot_ne (Or.inr (hw _ (List.mem_of_getElem? (i := 47) rfl))) (Or.inl (hw _ (List.mem_of_getElem? (i := 34) rfl))) (by decide) (t := (.array .int)) (t' := (.array .int)) (by decide) (by decide)))).other W7 (Or.inr (slot_ne (Or.inr (hw _ (List.mem_of_getElem? (i := 47) rfl))) (Or.inr (hw _ (List.mem_of_getElem? (i := 36) rfl))) (by decide) (t := (.array .int)) (t' := (.object "com/example/tilecairn/tilecairn/tiff/Layout")) (by decide) (by decide)))).keep (own_kp g8) nin0).ext E9).other W10 (Or.inr (slot_ne (Or.inr (hw _ (List.mem_of_getElem? (i := 47) rfl))) (Or.inr (hw _ (List.mem_of_getElem? (i := 43) rfl))) (by decide) (t := (.array .int)) (t' := (.array .int)) (by decide) (by decide)))).ext E11).other W12 (Or.inr (slot_ne (Or.inr (hw _ (List.mem_of_getElem? (i := 47) rfl))) (Or.inr (hw _ (List.mem_of_getElem? (i := 45) rfl))) (by decide) (t := (.array .int)) (t' := (.array .int)) (by decide) (by decide)))).ext E13) (((((((((E_a1.ext E5).wr W6).wr W7).keep (own_kp g8)).ext E9).wr W10).ext E11).wr W12).ext E13) (Or.inr ⟨(hw _ (List.mem_of_getElem? (i := 47) rfl)), rfl, hnm⟩) (hw _ (List.mem_of_getElem? (i := 26) rfl)) (ty := (.array .int)) (by decide) rfl rfl (g := (mkF m 41 #[.val (.ref a1), .val (.ref a2), .val (.int p3)] [(.ref b13), (.ref a1)])) rfl rfl (hb hby d4_41)
  have Fw14 := (((((((((F_openRow_a1.ext E5).other W6 (Or.inr (slot_ne (Or.inr (hw _ (List.mem_of_getElem? (i := 47) rfl))) (Or.inl (hw _ (List.mem_of_getElem? (i := 34) rfl))) (by decide) (t := (.array .int)) (t' := (.array .int)) (by decide) (by decide)))).other W7 (Or.inr (slot_ne (Or.inr (hw _ (List.mem_of_getElem? (i := 47) rfl))) (Or.inr (hw _ (List.mem_of_getElem? (i := 36) rfl))) (by decide) (t := (.array .int)) (t' := (.object "com/example/tilecairn/tilecairn/tiff/Layout")) (by decide) (by decide)))).keep (own_kp g8) nin0).ext E9).other W10 (Or.inr (slot_ne (Or.inr (hw _ (List.mem_of_getElem? (i := 47) rfl))) (Or.inr (hw _ (List.mem_of_getElem? (i := 43) rfl))) (by decide) (t := (.array .int)) (t' := (.array .int)) (by decide) (by decide)))).ext E11).other W12 (Or.inr (slot_ne (Or.inr (hw _ (List.mem_of_getElem? (i := 47) rfl))) (Or.inr (hw _ (List.mem_of_getElem? (i := 45) rfl))) (by decide) (t := (.array .int)) (t' := (.array .int)) (by decide) (by decide)))).ext E13).same W14
  have K14 : Keep h0 h14 [a1] := K13.wr W14 (Or.inl (List.mem_of_getElem? (i := 0) rfl))
  have N14 := Fr.snoc X14 N12 g_a1
  obtain ⟨T15, X15, e15, st15⟩ := getF X14 hx hZ hown (host := "") (Or.inl (hw _ (List.mem_of_getElem? (i := 46) rfl))) Via.refl e14 Fw14 (g := (mkF m 45 #[.val (.ref a1), .val (.ref a2), .val (.int p3)] [(.ref a1)])) rfl rfl (hb hby d4_45)
  obtain ⟨_, _, ⟨T16, L16, k16, n16⟩, -, X16, ⟨Lc16, hQ16, l16, y16, z16⟩, st16⟩ := Jvm.LawKit.callS X15 hx (y := (⟨"java/util/Arrays", "fill", "([II)V"⟩ : MethodName)) hown (mvT hZ (hw _ (List.mem_of_getElem? (i := 48) rfl))) (mvT hZ (hw _ (List.mem_of_getElem? (i := 49) rfl))) (mvT hZ (hw _ (List.mem_of_getElem? (i := 50) rfl))) (mvT hZ (hw _ (List.mem_of_getElem? (i := 51) rfl))) (by decide) (backOf (W := 0) (rm6 l Z a0 hw [] b13 (-1 : Int32) _ (0 : Int32) (0 : Int32) h14 n0 (Nat.le_trans Z0 K14.1) (own_pad 2 (V_b13.other W14 (Nat.ne_of_gt (Nat.lt_of_lt_of_le E_a1.lt sz_b13))) hp3) g_b13) hZ (hw _ (List.mem_of_getElem? (i := 51) rfl)) (hw _ (List.mem_of_getElem? (i := 50) rfl)) (by decide) (by decide)) (g := (mkF m 49 #[.val (.ref a1), .val (.ref a2), .val (.int p3)] [(.int (-1 : Int32)), (.ref b13)])) rfl (by rw [hml]; rfl) (argsL := [(.ref b13), (.int (-1 : Int32))]) (rest := []) (lenOf pd_2 rfl) rfl (by show 2 * 0 + _ ≤ _; exact Nat.le_of_eq rfl) (hb hby d4_49) (fun _ _ => ⟨rfl, e15, (by decide : 4 + 0 ≤ _), (by decide : 200 + 0 ≤ _)⟩)
  dsimp only [Pt.U, Pt.locs, Pt.cells, Pt.slots] at X16 l16 y16 z16 st16 hQ16
  subst l16 y16 z16
  obtain ⟨rfl, N16q, K16, V16⟩ := hQ16
  have N16 := Fr.app N14 N16q
  obtain ⟨fs, hr, hrun, hended, hW, hsame⟩ := X16.leave (v := none) (fun _ => rfl)
  refine ⟨_, _, pre0 _ ?_, hrun, hended, _, _, rfl, ?_, ⟨_, rfl⟩, hW, hsame.mono (by decide) (by decide)⟩
  · show Steps p.tables e below (s₁.setTop (mkF m 0 #[.val (.ref a1), .val (.ref a2), .val (.int p3)] [])) _
    refine XS.aloadN X0.here hx rfl (hb hby d4_0) rfl rfl ?_
    show Steps p.tables e below (s₁.setTop (mkF m 1 #[.val (.ref a1), .val (.ref a2), .val (.int p3)] [(.ref a1)])) _
    refine st4 _ ?_
    show Steps p.tables e below (T4.setTop (mkF m 4 #[.val (.ref a1), .val (.ref a2), .val (.int p3)] [])) _
    refine XS.aloadN X4.here hx rfl (hb hby d4_4) rfl rfl ?_
    show Steps p.tables e below (T4.setTop (mkF m 5 #[.val (.ref a1), .val (.ref a2), .val (.int p3)] [(.ref a1)])) _
    refine XS.sipush X4.here hx rfl (hb hby d4_5) ?_
    show Steps p.tables e below (T4.setTop (mkF m 8 #[.val (.ref a1), .val (.ref a2), .val (.int p3)] [(.int (192 : Int32)), (.ref a1)])) _
    refine st5 _ ?_
    show Steps p.tables e below (T5.setTop (mkF m 10 #[.val (.ref a1), .val (.ref a2), .val (.int p3)] [(.ref b5), (.ref a1)])) _
    refine st6 _ ?_
    show Steps p.tables e below (T6.setTop (mkF m 13 #[.val (.ref a1), .val (.ref a2), .val (.int p3)] [])) _
    refine XS.aloadN X6.here hx rfl (hb hby d4_13) rfl rfl ?_
    show Steps p.tables e below (T6.setTop (mkF m 14 #[.val (.ref a1), .val (.ref a2), .val (.int p3)] [(.ref a1)])) _
    refine XS.aloadN X6.here hx rfl (hb hby d4_14) rfl rfl ?_
    show Steps p.tables e below (T6.setTop (mkF m 15 #[.val (.ref a1), .val (.ref a2), .val (.int p3)] [(.ref a2), (.ref a1)])) _
    refine st7 _ ?_
    show Steps p.tables e below (T7.setTop (mkF m 18 #[.val (.ref a1), .val (.ref a2), .val (.int p3)] [])) _
    refine XS.aloadN X7.here hx rfl (hb hby d4_18) rfl rfl ?_
    show Steps p.tables e below (T7.setTop (mkF m 19 #[.val (.ref a1), .val (.ref a2), .val (.int p3)] [(.ref a1)])) _
    refine XS.aloadN X7.here hx rfl (hb hby d4_19) rfl rfl ?_
    show Steps p.tables e below (T7.setTop (mkF m 20 #[.val (.ref a1), .val (.ref a2), .val (.int p3)] [(.ref a2), (.ref a1)])) _
    refine st8.trans ?_
    show Steps p.tables e below (T8.setTop (mkF m 23 #[.val (.ref a1), .val (.ref a2), .val (.int p3)] [(.int (3 : Int32)), (.ref a1)])) _
    refine XS.iconst X8.here hx rfl (hb hby d4_23) ?_
    show Steps p.tables e below (T8.setTop (mkF m 24 #[.val (.ref a1), .val (.ref a2), .val (.int p3)] [(.int (1 : Int32)), (.int (3 : Int32)), (.ref a1)])) _
    refine XS.iadd X8.here hx rfl (hb hby d4_24) rfl ?_
    show Steps p.tables e below (T8.setTop (mkF m 25 #[.val (.ref a1), .val (.ref a2), .val (.int p3)] [(.int ((3 : Int32) + (1 : Int32))), (.ref a1)])) _
    refine st9 _ ?_
    show Steps p.tables e below (T9.setTop (mkF m 27 #[.val (.ref a1), .val (.ref a2), .val (.int p3)] [(.ref b9), (.ref a1)])) _
    refine st10 _ ?_
    show Steps p.tables e below (T10.setTop (mkF m 30 #[.val (.ref a1), .val (.ref a2), .val (.int p3)] [])) _
    refine XS.aloadN X10.here hx rfl (hb hby d4_30) rfl rfl ?_
    show Steps p.tables e below (T10.setTop (mkF m 31 #[.val (.ref a1), .val (.ref a2), .val (.int p3)] [(.ref a1)])) _
    refine XS.iloadN X10.here hx rfl (hb hby d4_31) rfl ?_
    show Steps p.tables e below (T10.setTop (mkF m 32 #[.val (.ref a1), .val (.ref a2), .val (.int p3)] [(.int p3), (.ref a1)])) _
    refine st11 _ ?_
    show Steps p.tables e below (T11.setTop (mkF m 34 #[.val (.ref a1), .val (.ref a2), .val (.int p3)] [(.ref b11), (.ref a1)])) _
    refine st12 _ ?_
    show Steps p.tables e below (T12.setTop (mkF m 37 #[.val (.ref a1), .val (.ref a2), .val (.int p3)] [])) _
    refine XS.aloadN X12.here hx rfl (hb hby d4_37) rfl rfl ?_
    show Steps p.tables e below (T12.setTop (mkF m 38 #[.val (.ref a1), .val (.ref a2), .val (.int p3)] [(.ref a1)])) _
    refine XS.iloadN X12.here hx rfl (hb hby d4_38) rfl ?_
    show Steps p.tables e below (T12.setTop (mkF m 39 #[.val (.ref a1), .val (.ref a2), .val (.int p3)] [(.int p3), (.ref a1)])) _
    refine st13 _ ?_
    show Steps p.tables e below (T13.setTop (mkF m 41 #[.val (.ref a1), .val (.ref a2), .val (.int p3)] [(.ref b13), (.ref a1)])) _
    refine st14 _ ?_
    show Steps p.tables e below (T14.setTop (mkF m 44 #[.val (.ref a1), .val (.ref a2), .val (.int p3)] [])) _
    refine XS.aloadN X14.here hx rfl (hb hby d4_44) rfl rfl ?_
    show Steps p.tables e below (T14.setTop (mkF m 45 #[.val (.ref a1), .val (.ref a2), .val (.int p3)] [(.ref a1)])) _
    refine st15 _ ?_
    show Steps p.tables e below (T15.setTop (mkF m 48 #[.val (.ref a1), .val (.ref a2), .val (.int p3)] [(.ref b13)])) _
    refine XS.iconst X15.here hx rfl (hb hby d4_48) ?_
    show Steps p.tables e below (T15.setTop (mkF m 49 #[.val (.ref a1), .val (.ref a2), .val (.int p3)] [(.int (-1 : Int32)), (.ref b13)])) _
    refine st16 _ ?_
    show Steps p.tables e below (T16.setTop (mkF m 52 #[.val (.ref a1), .val (.ref a2), .val (.int p3)] [])) _
    exact X16.returnOut hx Bd.returns (hb hby d4_52) hr
  · show Q4 Z a1 a2 p3 u_runs_a1 u_layout_a1 u_starts_a1 u_openRun_a1 u_openRow_a1 h0 n0 _ T16.heap _
    have L1 : @LT.lt Nat _ a1 b5 := by rw [g5]; exact E_a1.lt
    have L2 : @LT.lt Nat _ b5 b9 := by rw [g9]; exact ((((V_b5.other W6 (by omega : @Ne Nat b5 a1)).other W7 (by omega : @Ne Nat b5 a1)).keep (own_kp g8) nin0)).lt
    have L3 : @LT.lt Nat _ b9 b11 := by rw [g11]; exact ((V_b9.other W10 (by omega : @Ne Nat b9 a1))).lt
    have L4 : @LT.lt Nat _ b11 b13 := by rw [g13]; exact ((V_b11.other W12 (by omega : @Ne Nat b11 a1))).lt
    have S5 := own_pad 6 (((((((((((V_b5.other W6 (by omega : @Ne Nat b5 a1)).other W7 (by omega : @Ne Nat b5 a1)).keep (own_kp g8) nin0).ext E9).other W10 (by omega : @Ne Nat b5 a1)).ext E11).other W12 (by omega : @Ne Nat b5 a1)).ext E13).other W14 (by omega : @Ne Nat b5 a1)).keep K16 (ninS (by omega : @Ne Nat b5 b13) nin0))) rfl
    have S9 := own_pad 4 (((((((V_b9.other W10 (by omega : @Ne Nat b9 a1)).ext E11).other W12 (by omega : @Ne Nat b9 a1)).ext E13).other W14 (by omega : @Ne Nat b9 a1)).keep K16 (ninS (by omega : @Ne Nat b9 b13) nin0))) (show ((3 : Int32) + (1 : Int32)) = (4 : Int32) by decide)
    obtain ⟨c11, C11, -, S11, -, -, -⟩ := ((((V_b11.other W12 (by omega : @Ne Nat b11 a1)).ext E13).other W14 (by omega : @Ne Nat b11 a1)).keep K16 (ninS (by omega : @Ne Nat b11 b13) nin0))
    obtain ⟨c13, C13, -, S13, -, H13, -⟩ := V16
    refine ⟨rfl, N16, Nat.le_trans (Nat.le_trans Z0 K14.1) K16.1, b5, b9, b11, b13, ⟨L1, L2, L3, L4⟩, (((((((((((E_a1.ext E5).wr W6).wr W7).keep (own_kp g8)).ext E9).wr W10).ext E11).wr W12).ext E13).wr W14).keep K16), (((((((((((E_a2.ext E5).wr W6).wr W7).keep (own_kp g8)).ext E9).wr W10).ext E11).wr W12).ext E13).wr W14).keep K16), (((((((((((F_ba.ext E5).other W6 (Or.inl (by omega : @Ne Nat a2 a1))).other W7 (Or.inl (by omega : @Ne Nat a2 a1))).keep (own_kp g8) nin0).ext E9).other W10 (Or.inl (by omega : @Ne Nat a2 a1))).ext E11).other W12 (Or.inl (by omega : @Ne Nat a2 a1))).ext E13).other W14 (Or.inl (by omega : @Ne Nat a2 a1))).keep K16 (ninS (by omega : @Ne Nat a2 b13) nin0)), ((((((((Fw7.keep (own_kp g8) nin0).ext E9).other W10 (Or.inr (slot_ne (Or.inr (hw _ (List.mem_of_getElem? (i := 36) rfl))) (Or.inr (hw _ (List.mem_of_getElem? (i := 43) rfl))) (by decide) (t := (.object "com/example/tilecairn/tilecairn/tiff/Layout")) (t' := (.array .int)) (by decide) (by decide)))).ext E11).other W12 (Or.inr (slot_ne (Or.inr (hw _ (List.mem_of_getElem? (i := 36) rfl))) (Or.inr (hw _ (List.mem_of_getElem? (i := 45) rfl))) (by decide) (t := (.object "com/example/tilecairn/tilecairn/tiff/Layout")) (t' := (.array .int)) (by decide) (by decide)))).ext E13).other W14 (Or.inr (slot_ne (Or.inr (hw _ (List.mem_of_getElem? (i := 36) rfl))) (Or.inr (hw _ (List.mem_of_getElem? (i := 47) rfl))) (by decide) (t := (.object "com/example/tilecairn/tilecairn/tiff/Layout")) (t' := (.array .int)) (by decide) (by decide)))).keep K16 (ninS (by omega : @Ne Nat a1 b13) nin0)), (((((((((Fw6.other W7 (Or.inr (slot_ne (Or.inl (hw _ (List.mem_of_getElem? (i := 34) rfl))) (Or.inr (hw _ (List.mem_of_getElem? (i := 36) rfl))) (by decide) (t := (.array .int)) (t' := (.object "com/example/tilecairn/tilecairn/tiff/Layout")) (by decide) (by decide)))).keep (own_kp g8) nin0).ext E9).other W10 (Or.inr (slot_ne (Or.inl (hw _ (List.mem_of_getElem? (i := 34) rfl))) (Or.inr (hw _ (List.mem_of_getElem? (i := 43) rfl))) (by decide) (t := (.array .int)) (t' := (.array .int)) (by decide) (by decide)))).ext E11).other W12 (Or.inr (slot_ne (Or.inl (hw _ (List.mem_of_getElem? (i := 34) rfl))) (Or.inr (hw _ (List.mem_of_getElem? (i := 45) rfl))) (by decide) (t := (.array .int)) (t' := (.array .int)) (by decide) (by decide)))).ext E13).other W14 (Or.inr (slot_ne (Or.inl (hw _ (List.mem_of_getElem? (i := 34) rfl))) (Or.inr (hw _ (List.mem_of_getElem? (i := 47) rfl))) (by decide) (t := (.array .int)) (t' := (.array .int)) (by decide) (by decide)))).keep K16 (ninS (by omega : @Ne Nat a1 b13) nin0)), (((((Fw10.ext E11).other W12 (Or.inr (slot_ne (Or.inr (hw _ (List.mem_of_getElem? (i := 43) rfl))) (Or.inr (hw _ (List.mem_of_getElem? (i := 45) rfl))) (by decide) (t := (.array .int)) (t' := (.array .int)) (by decide) (by decide)))).ext E13).other W14 (Or.inr (slot_ne (Or.inr (hw _ (List.mem_of_getElem? (i := 43) rfl))) (Or.inr (hw _ (List.mem_of_getElem? (i := 47) rfl))) (by decide) (t := (.array .int)) (t' := (.array .int)) (by decide) (by decide)))).keep K16 (ninS (by omega : @Ne Nat a1 b13) nin0)), (((Fw12.ext E13).other W14 (Or.inr (slot_ne (Or.inr (hw _ (List.mem_of_getElem? (i := 45) rfl))) (Or.inr (hw _ (List.mem_of_getElem? (i := 47) rfl))) (by decide) (t := (.array .int)) (t' := (.array .int)) (by decide) (by decide)))).keep K16 (ninS (by omega : @Ne Nat a1 b13) nin0)), (Fw14.keep K16 (ninS (by omega : @Ne Nat a1 b13) nin0)), (((((((((((F_rc.ext E5).other W6 (Or.inr (slot_ne (Or.inl (hw _ (List.mem_of_getElem? (i := 60) rfl))) (Or.inl (hw _ (List.mem_of_getElem? (i := 34) rfl))) (by decide) (t := .int) (t' := (.array .int)) (by decide) (by decide)))).other W7 (Or.inr (slot_ne (Or.inl (hw _ (List.mem_of_getElem? (i := 60) rfl))) (Or.inr (hw _ (List.mem_of_getElem? (i := 36) rfl))) (by decide) (t := .int) (t' := (.object "com/example/tilecairn/tilecairn/tiff/Layout")) (by decide) (by decide)))).keep (own_kp g8) nin0).ext E9).other W10 (Or.inr (slot_ne (Or.inl (hw _ (List.mem_of_getElem? (i := 60) rfl))) (Or.inr (hw _ (List.mem_of_getElem? (i := 43) rfl))) (by decide) (t := .int) (t' := (.array .int)) (by decide) (by decide)))).ext E11).other W12 (Or.inr (slot_ne (Or.inl (hw _ (List.mem_of_getElem? (i := 60) rfl))) (Or.inr (hw _ (List.mem_of_getElem? (i := 45) rfl))) (by decide) (t := .int) (t' := (.array .int)) (by decide) (by decide)))).ext E13).other W14 (Or.inr (slot_ne (Or.inl (hw _ (List.mem_of_getElem? (i := 60) rfl))) (Or.inr (hw _ (List.mem_of_getElem? (i := 47) rfl))) (by decide) (t := .int) (t' := (.array .int)) (by decide) (by decide)))).keep K16 (ninS (by omega : @Ne Nat a1 b13) nin0)), (((((((((((F_br.ext E5).other W6 (Or.inr (slot_ne (Or.inl (hw _ (List.mem_of_getElem? (i := 58) rfl))) (Or.inl (hw _ (List.mem_of_getElem? (i := 34) rfl))) (by decide) (t := .int) (t' := (.array .int)) (by decide) (by decide)))).other W7 (Or.inr (slot_ne (Or.inl (hw _ (List.mem_of_getElem? (i := 58) rfl))) (Or.inr (hw _ (List.mem_of_getElem? (i := 36) rfl))) (by decide) (t := .int) (t' := (.object "com/example/tilecairn/tilecairn/tiff/Layout")) (by decide) (by decide)))).keep (own_kp g8) nin0).ext E9).other W10 (Or.inr (slot_ne (Or.inl (hw _ (List.mem_of_getElem? (i := 58) rfl))) (Or.inr (hw _ (List.mem_of_getElem? (i := 43) rfl))) (by decide) (t := .int) (t' := (.array .int)) (by decide) (by decide)))).ext E11).other W12 (Or.inr (slot_ne (Or.inl (hw _ (List.mem_of_getElem? (i := 58) rfl))) (Or.inr (hw _ (List.mem_of_getElem? (i := 45) rfl))) (by decide) (t := .int) (t' := (.array .int)) (by decide) (by decide)))).ext E13).other W14 (Or.inr (slot_ne (Or.inl (hw _ (List.mem_of_getElem? (i := 58) rfl))) (Or.inr (hw _ (List.mem_of_getElem? (i := 47) rfl))) (by decide) (t := .int) (t' := (.array .int)) (by decide) (by decide)))).keep K16 (ninS (by omega : @Ne Nat a1 b13) nin0)), ⟨_, S5⟩, ⟨_, S9⟩, ⟨c11, C11, by rw [S11, hp3]⟩, ⟨c13, C13, S13, fun j hj => ?_⟩⟩
    have k : j = 0 ∨ j = 1 := by omega
    rcases k with rfl | rfl
    · exact ⟨-1, H13 0 (by rw [S13]; decide), by decide⟩
    · exact ⟨-1, H13 1 (by rw [S13]; decide), by decide⟩

theorem d7_0 : decode prog_67_method_3_code 0 = .ok (.aload_n 0, 1) := by decide +kernel
theorem d7_1 : decode prog_67_method_3_code 1 = .ok (.dup, 1) := by decide +kernel
theorem d7_2 : decode prog_67_method_3_code 2 = .ok (.getfield 40, 3) := by decide +kernel
theorem d7_5 : decode prog_67_method_3_code 5 = .ok (.iconst 1, 1) := by decide +kernel
theorem d7_6 : decode prog_67_method_3_code 6 = .ok (.iadd, 1) := by decide +kernel
theorem d7_7 : decode prog_67_method_3_code 7 = .ok (.putfield 40, 3) := by decide +kernel
theorem d7_10 : decode prog_67_method_3_code 10 = .ok (.aload_n 0, 1) := by decide +kernel
theorem d7_11 : decode prog_67_method_3_code 11 = .ok (.getfield 25, 3) := by decide +kernel
theorem d7_14 : decode prog_67_method_3_code 14 = .ok (.aload_n 0, 1) := by decide +kernel
theorem d7_15 : decode prog_67_method_3_code 15 = .ok (.getfield 40, 3) := by decide +kernel
theorem d7_18 : decode prog_67_method_3_code 18 = .ok (.aload_n 0, 1) := by decide +kernel
theorem d7_19 : decode prog_67_method_3_code 19 = .ok (.getfield 44, 3) := by decide +kernel
theorem d7_22 : decode prog_67_method_3_code 22 = .ok (.iastore, 1) := by decide +kernel
theorem d7_23 : decode prog_67_method_3_code 23 = .ok (.return_, 1) := by decide +kernel
theorem pn_7 : plainName "com/example/tilecairn/tilecairn/zonal/CoveredBlocks$Builder" = true := by first | (simp [plainName, overriddenIn]; done) | decide +kernel
theorem ef_7 (m : MethodId) (x0 : Addr) : entryFrame m #[(.ref x0)] 1 = mkF m 0 #[.val (.ref x0)] [] := by first | (simp [entryFrame, mkF, argsToLocals, Value.category]; done) | rfl
def Q7 (Z : State) (a1 : Addr) (la ru sa on ow : Addr) (rc br : Int32) (rs ss : List Value) (b : Int) (h0 : Heap) (n0 : Nat) (v : Option Value) (h : Heap) (L : List Loc) : Prop := v = none ∧ Fr n0 L ∧ n0 ≤ h.size ∧ own_B Z h la a1 ru sa on ow rc (br + (1 : Int32)) rs (ss.set (br + (1 : Int32)).toNatClampNeg (.int rc)) b
set_option maxRecDepth 65536 in
set_option maxHeartbeats 40000000 in
theorem rm7 (l : Launch) (Z : State) (a0 : Array Value) (hw : ∀ d ∈ tables_1, d.before a0 Z = true) (ws : List Jvm.Cond) (a1 : Addr) (la ru sa on ow : Addr) (rc br : Int32) (rs ss : List Value) (b : Int) (h0 : Heap) (n0 : Nat) (Z0 : n0 ≤ h0.size) (S : own_B Z h0 la a1 ru sa on ow rc br rs ss b) (hl : ss.length = 4) (hbr : ¬ br + (1 : Int32) < 0 ∧ br + (1 : Int32) < (4 : Int32)) (hch : @LT.lt Nat _ la a1 ∧ @LT.lt Nat _ a1 ru ∧ @LT.lt Nat _ ru sa ∧ @LT.lt Nat _ sa on ∧ @LT.lt Nat _ on ow) (gl : n0 ≤ la) :
    MetFree l (⟨"com/example/tilecairn/tilecairn/zonal/CoveredBlocks$Builder", "endRow", "()V"⟩ : MethodName) (head1 (Jvm.Cond.code (⟨"com/example/tilecairn/tilecairn/zonal/CoveredBlocks$Builder", "endRow", "()V"⟩ : MethodName) prog_67_method_3_code 1 none :: ws) ({ frames := 0, cells := 0, slots := 0, locals := 0 } : Room)) (fun a U => a = #[(.ref a1)] ∧ Z.Warmed39 U.vm ∧ U.heap = h0) (fun _ _ _ _ _ => True) (fun _ U o U' => ∃ v L, o = .returned v ∧ Q7 Z a1 la ru sa on ow rc br rs ss b h0 n0 v U'.heap L ∧ FrameEnd U o U' L ({ frames := 0, cells := 0, slots := 0, locals := 0 } : Room).cells ({ frames := 0, cells := 0, slots := 0, locals := 0 } : Room).slots) := by
  refine MetFree.of_bodySF (plainFor_of_name pn_7) hisR ?_
  intro p e s m args below meth c s₁ Bd hml0 hP hK
  obtain ⟨rfl, hZ, hh⟩ := hP
  have hx := Bd.exec
  have hby := Bd.bytes
  have hml : c.maxLocals = 1 := hml0
  have hown : s.vm.findClass "com/example/tilecairn/tilecairn/zonal/CoveredBlocks$Builder" = some m.cls := findClass_of_methodNamed Bd.named
  have hnm := (name_of_methodNamed Bd.named Bd.method).1
  have X0 : Stand p l e ({ frames := 0, cells := 0, slots := 0, locals := 0 } : Room) s m #[(.ref a1)] below meth c s₁ [] 0 0 := Stand.of_body Bd
  have e0 : s₁.heap = h0 := by rw [← hh, Bd.state]; rfl
  have N0 := Fr.nil n0
  have pre0 : ∀ t, Steps p.tables e below (s₁.setTop (mkF m 0 #[.val (.ref a1)] [])) t → Steps p.tables e below (s₁.setTop (entryFrame m #[(.ref a1)] 1)) t := fun t k => castTop (ef_7 m a1) k
  obtain ⟨Ex, El, Fba, Fla, Fru, Fst, Fon, Fow, Frc, Fbr, ⟨kr, Vr⟩, ⟨ks, Vs⟩, ⟨cn, An, Sn⟩, ⟨cw, Aw, Sw, Hw⟩⟩ := S
  obtain ⟨c1, c2, c3, c4, c5⟩ := hch
  obtain ⟨cs, As, qs, Ss, Ms, Hs, Gs⟩ := Vs
  have hin : ¬ (br + (1 : Int32) < 0 ∨ cs.slots.size ≤ (br + (1 : Int32)).toNatClampNeg) := inb_of Ss hbr
  have hlt : (br + (1 : Int32)).toNatClampNeg < ss.length := by rw [hl]; have := Nat.lt_of_not_le (fun q => hin (Or.inr q)); rw [Ss] at this; exact this
  obtain ⟨T3_1, X3_1, e3_1, st3_1⟩ := getF X0 hx hZ hown (host := "") (Or.inl (hw _ (List.mem_of_getElem? (i := 57) rfl))) Via.refl e0 Fbr (g := (mkF m 2 #[.val (.ref a1)] [(.ref a1), (.ref a1)])) rfl rfl (hb hby d7_2)
  obtain ⟨T4_1, h4_1, X4_1, e4_1, W4_1, st4_1⟩ := putF X3_1 hx hZ hown (host := "") (Or.inl (hw _ (List.mem_of_getElem? (i := 57) rfl))) Via.refl e3_1 Fbr Ex (Or.inl (hw _ (List.mem_of_getElem? (i := 58) rfl))) (hw _ (List.mem_of_getElem? (i := 26) rfl)) (ty := .int) (by decide) rfl rfl (g := (mkF m 7 #[.val (.ref a1)] [(.int (br + (1 : Int32))), (.ref a1)])) rfl rfl (hb hby d7_7)
  have Fw4_1 := Fbr.same W4_1
  have K4_1 : Keep h0 h4_1 [a1, sa] := (Keep.refl h0 [a1, sa]).wr W4_1 (Or.inl (List.mem_of_getElem? (i := 0) rfl))
  have N4_1 := Fr.snoc X4_1 N0 (by omega : n0 ≤ a1)
  obtain ⟨T6_1, X6_1, e6_1, st6_1⟩ := getF X4_1 hx hZ hown (host := "") (Or.inl (hw _ (List.mem_of_getElem? (i := 42) rfl))) Via.refl e4_1 (Fst.other W4_1 (Or.inr (slot_ne (Or.inr (hw _ (List.mem_of_getElem? (i := 43) rfl))) (Or.inl (hw _ (List.mem_of_getElem? (i := 58) rfl))) (by decide) (t := (.array .int)) (t' := .int) (by decide) (by decide)))) (g := (mkF m 11 #[.val (.ref a1)] [(.ref a1)])) rfl rfl (hb hby d7_11)
  obtain ⟨T7_1, X7_1, e7_1, st7_1⟩ := getF X6_1 hx hZ hown (host := "") (Or.inl (hw _ (List.mem_of_getElem? (i := 57) rfl))) Via.refl e6_1 Fw4_1 (g := (mkF m 15 #[.val (.ref a1)] [(.ref a1), (.ref sa)])) rfl rfl (hb hby d7_15)
  obtain ⟨T9_1, X9_1, e9_1, st9_1⟩ := getF X7_1 hx hZ hown (host := "") (Or.inl (hw _ (List.mem_of_getElem? (i := 59) rfl))) Via.refl e7_1 (Frc.other W4_1 (Or.inr (slot_ne (Or.inl (hw _ (List.mem_of_getElem? (i := 60) rfl))) (Or.inl (hw _ (List.mem_of_getElem? (i := 58) rfl))) (by decide) (t := .int) (t' := .int) (by decide) (by decide)))) (g := (mkF m 19 #[.val (.ref a1)] [(.ref a1), (.int (br + (1 : Int32))), (.ref sa)])) rfl rfl (hb hby d7_19)
  obtain ⟨T10_1, h10_1, X10_1, e10_1, W10_1, st10_1⟩ := stI X9_1 hx hZ e9_1 (As.other W4_1 (by omega : @Ne Nat sa a1)) (j := (br + (1 : Int32))) hin (g := (mkF m 22 #[.val (.ref a1)] [(.int rc), (.int (br + (1 : Int32))), (.ref sa)])) rfl rfl (hb hby d7_22)
  have N10_1 := Fr.snoc X10_1 N4_1 (by omega : n0 ≤ sa)
  have K10_1 : Keep h0 h10_1 [a1, sa] := K4_1.wr W10_1 (Or.inl (List.mem_of_getElem? (i := 1) rfl))
  have st_1p : ∀ target, Steps p.tables e below (T10_1.setTop (mkF m 23 #[.val (.ref a1)] [])) target → Steps p.tables e below (s₁.setTop (mkF m 0 #[.val (.ref a1)] [])) target := by
    intro target kt
    show Steps p.tables e below (s₁.setTop (mkF m 0 #[.val (.ref a1)] [])) _
    refine XS.aloadN X0.here hx rfl (hb hby d7_0) rfl rfl ?_
    show Steps p.tables e below (s₁.setTop (mkF m 1 #[.val (.ref a1)] [(.ref a1)])) _
    refine XS.dup X0.here hx rfl (hb hby d7_1) rfl rfl ?_
    show Steps p.tables e below (s₁.setTop (mkF m 2 #[.val (.ref a1)] [(.ref a1), (.ref a1)])) _
    refine st3_1 _ ?_
    show Steps p.tables e below (T3_1.setTop (mkF m 5 #[.val (.ref a1)] [(.int br), (.ref a1)])) _
    refine XS.iconst X3_1.here hx rfl (hb hby d7_5) ?_
    show Steps p.tables e below (T3_1.setTop (mkF m 6 #[.val (.ref a1)] [(.int (1 : Int32)), (.int br), (.ref a1)])) _
    refine XS.iadd X3_1.here hx rfl (hb hby d7_6) rfl ?_
    show Steps p.tables e below (T3_1.setTop (mkF m 7 #[.val (.ref a1)] [(.int (br + (1 : Int32))), (.ref a1)])) _
    refine st4_1 _ ?_
    show Steps p.tables e below (T4_1.setTop (mkF m 10 #[.val (.ref a1)] [])) _
    refine XS.aloadN X4_1.here hx rfl (hb hby d7_10) rfl rfl ?_
    show Steps p.tables e below (T4_1.setTop (mkF m 11 #[.val (.ref a1)] [(.ref a1)])) _
    refine st6_1 _ ?_
    show Steps p.tables e below (T6_1.setTop (mkF m 14 #[.val (.ref a1)] [(.ref sa)])) _
    refine XS.aloadN X6_1.here hx rfl (hb hby d7_14) rfl rfl ?_
    show Steps p.tables e below (T6_1.setTop (mkF m 15 #[.val (.ref a1)] [(.ref a1), (.ref sa)])) _
    refine st7_1 _ ?_
    show Steps p.tables e below (T7_1.setTop (mkF m 18 #[.val (.ref a1)] [(.int (br + (1 : Int32))), (.ref sa)])) _
    refine XS.aloadN X7_1.here hx rfl (hb hby d7_18) rfl rfl ?_
    show Steps p.tables e below (T7_1.setTop (mkF m 19 #[.val (.ref a1)] [(.ref a1), (.int (br + (1 : Int32))), (.ref sa)])) _
    refine st9_1 _ ?_
    show Steps p.tables e below (T9_1.setTop (mkF m 22 #[.val (.ref a1)] [(.int rc), (.int (br + (1 : Int32))), (.ref sa)])) _
    refine st10_1 _ ?_
    exact kt
  have V10 := Arv.set (As.other W4_1 (by omega : @Ne Nat sa a1)) qs Ss Ms Hs Gs rfl W10_1 _ rfl hlt
  obtain ⟨fs, hr, hrun, hended, hW, hsame⟩ := X10_1.leave (v := none) (fun _ => rfl)
  refine ⟨_, _, pre0 _ ?_, hrun, hended, _, _, rfl, ?_, ⟨_, rfl⟩, hW, hsame.mono (by decide) (by decide)⟩
  · show Steps p.tables e below (s₁.setTop (mkF m 0 #[.val (.ref a1)] [])) _
    refine st_1p _ ?_
    exact X10_1.returnOut hx Bd.returns (hb hby d7_23) hr
  · show Q7 Z a1 la ru sa on ow rc br rs ss b h0 n0 _ T10_1.heap _
    rw [e10_1]
    exact ⟨rfl, N10_1, Nat.le_trans Z0 K10_1.1, ((Ex.wr W4_1).wr W10_1), ((El.wr W4_1).wr W10_1), ((Fba.other W4_1 (Or.inl (by omega : @Ne Nat la a1))).other W10_1 (Or.inl (by omega : @Ne Nat la sa))), ((Fla.other W4_1 (Or.inr (slot_ne (Or.inr (hw _ (List.mem_of_getElem? (i := 36) rfl))) (Or.inl (hw _ (List.mem_of_getElem? (i := 58) rfl))) (by decide) (t := (.object "com/example/tilecairn/tilecairn/tiff/Layout")) (t' := .int) (by decide) (by decide)))).other W10_1 (Or.inl (by omega : @Ne Nat a1 sa))), ((Fru.other W4_1 (Or.inr (slot_ne (Or.inl (hw _ (List.mem_of_getElem? (i := 34) rfl))) (Or.inl (hw _ (List.mem_of_getElem? (i := 58) rfl))) (by decide) (t := (.array .int)) (t' := .int) (by decide) (by decide)))).other W10_1 (Or.inl (by omega : @Ne Nat a1 sa))), ((Fst.other W4_1 (Or.inr (slot_ne (Or.inr (hw _ (List.mem_of_getElem? (i := 43) rfl))) (Or.inl (hw _ (List.mem_of_getElem? (i := 58) rfl))) (by decide) (t := (.array .int)) (t' := .int) (by decide) (by decide)))).other W10_1 (Or.inl (by omega : @Ne Nat a1 sa))), ((Fon.other W4_1 (Or.inr (slot_ne (Or.inr (hw _ (List.mem_of_getElem? (i := 45) rfl))) (Or.inl (hw _ (List.mem_of_getElem? (i := 58) rfl))) (by decide) (t := (.array .int)) (t' := .int) (by decide) (by decide)))).other W10_1 (Or.inl (by omega : @Ne Nat a1 sa))), ((Fow.other W4_1 (Or.inr (slot_ne (Or.inr (hw _ (List.mem_of_getElem? (i := 47) rfl))) (Or.inl (hw _ (List.mem_of_getElem? (i := 58) rfl))) (by decide) (t := (.array .int)) (t' := .int) (by decide) (by decide)))).other W10_1 (Or.inl (by omega : @Ne Nat a1 sa))), ((Frc.other W4_1 (Or.inr (slot_ne (Or.inl (hw _ (List.mem_of_getElem? (i := 60) rfl))) (Or.inl (hw _ (List.mem_of_getElem? (i := 58) rfl))) (by decide) (t := .int) (t' := .int) (by decide) (by decide)))).other W10_1 (Or.inl (by omega : @Ne Nat a1 sa))), (Fw4_1.other W10_1 (Or.inl (by omega : @Ne Nat a1 sa))), ⟨_, ((Vr.other W4_1 (by omega : @Ne Nat ru a1)).other W10_1 (by omega : @Ne Nat ru sa))⟩, ⟨_, V10⟩, ⟨cn, ((An.other W4_1 (by omega : @Ne Nat on a1)).other W10_1 (by omega : @Ne Nat on sa)), Sn⟩, ⟨cw, ((Aw.other W4_1 (by omega : @Ne Nat ow a1)).other W10_1 (by omega : @Ne Nat ow sa)), Sw, Hw⟩⟩

theorem own_row {c : Cell} {b : Int} {br : Int32} {i : Nat} (H : ∀ j, j < 2 → ∃ w : Int32, c.slots[j]? = some (.int w) ∧ w.toInt ≤ b) (hb : b ≤ br.toInt) (hi : i < c.slots.size) : ∀ j, j < 2 → ∃ w : Int32, (c.setSlot i (.int br)).slots[j]? = some (.int w) ∧ w.toInt ≤ br.toInt := by
  intro j hj
  by_cases u : i = j
  · subst u; exact ⟨br, own_gs _ _ _ hi, Int.le_refl _⟩
  · obtain ⟨w, h1, h2⟩ := H j hj
    exact ⟨w, by rw [own_gn _ _ _ _ u]; exact h1, Int.le_trans h2 hb⟩

theorem d15_0 : decode prog_67_method_2_code 0 = .ok (.aload_n 0, 1) := by decide +kernel
theorem d15_1 : decode prog_67_method_2_code 1 = .ok (.getfield 31, 3) := by decide +kernel
theorem d15_4 : decode prog_67_method_2_code 4 = .ok (.iload_n 1, 1) := by decide +kernel
theorem d15_5 : decode prog_67_method_2_code 5 = .ok (.iaload, 1) := by decide +kernel
theorem d15_6 : decode prog_67_method_2_code 6 = .ok (.aload_n 0, 1) := by decide +kernel
theorem d15_7 : decode prog_67_method_2_code 7 = .ok (.getfield 40, 3) := by decide +kernel
theorem d15_10 : decode prog_67_method_2_code 10 = .ok (.if_icmp .ne 48, 3) := by decide +kernel
theorem d15_58 : decode prog_67_method_2_code 58 = .ok (.iconst 3, 1) := by decide +kernel
theorem d15_59 : decode prog_67_method_2_code 59 = .ok (.aload_n 0, 1) := by decide +kernel
theorem d15_60 : decode prog_67_method_2_code 60 = .ok (.getfield 44, 3) := by decide +kernel
theorem d15_63 : decode prog_67_method_2_code 63 = .ok (.imul, 1) := by decide +kernel
theorem d15_64 : decode prog_67_method_2_code 64 = .ok (.aload_n 0, 1) := by decide +kernel
theorem d15_65 : decode prog_67_method_2_code 65 = .ok (.getfield 9, 3) := by decide +kernel
theorem d15_68 : decode prog_67_method_2_code 68 = .ok (.arraylength, 1) := by decide +kernel
theorem d15_69 : decode prog_67_method_2_code 69 = .ok (.if_icmp .ne 21, 3) := by decide +kernel
theorem d15_90 : decode prog_67_method_2_code 90 = .ok (.aload_n 0, 1) := by decide +kernel
theorem d15_91 : decode prog_67_method_2_code 91 = .ok (.getfield 9, 3) := by decide +kernel
theorem d15_94 : decode prog_67_method_2_code 94 = .ok (.iconst 3, 1) := by decide +kernel
theorem d15_95 : decode prog_67_method_2_code 95 = .ok (.aload_n 0, 1) := by decide +kernel
theorem d15_96 : decode prog_67_method_2_code 96 = .ok (.getfield 44, 3) := by decide +kernel
theorem d15_99 : decode prog_67_method_2_code 99 = .ok (.imul, 1) := by decide +kernel
theorem d15_100 : decode prog_67_method_2_code 100 = .ok (.iload_n 2, 1) := by decide +kernel
theorem d15_101 : decode prog_67_method_2_code 101 = .ok (.iastore, 1) := by decide +kernel
theorem d15_102 : decode prog_67_method_2_code 102 = .ok (.aload_n 0, 1) := by decide +kernel
theorem d15_103 : decode prog_67_method_2_code 103 = .ok (.getfield 9, 3) := by decide +kernel
theorem d15_106 : decode prog_67_method_2_code 106 = .ok (.iconst 3, 1) := by decide +kernel
theorem d15_107 : decode prog_67_method_2_code 107 = .ok (.aload_n 0, 1) := by decide +kernel
theorem d15_108 : decode prog_67_method_2_code 108 = .ok (.getfield 44, 3) := by decide +kernel
theorem d15_111 : decode prog_67_method_2_code 111 = .ok (.imul, 1) := by decide +kernel
theorem d15_112 : decode prog_67_method_2_code 112 = .ok (.iconst 1, 1) := by decide +kernel
theorem d15_113 : decode prog_67_method_2_code 113 = .ok (.iadd, 1) := by decide +kernel
theorem d15_114 : decode prog_67_method_2_code 114 = .ok (.iload_n 2, 1) := by decide +kernel
theorem d15_115 : decode prog_67_method_2_code 115 = .ok (.iconst 1, 1) := by decide +kernel
theorem d15_116 : decode prog_67_method_2_code 116 = .ok (.iadd, 1) := by decide +kernel
theorem d15_117 : decode prog_67_method_2_code 117 = .ok (.iastore, 1) := by decide +kernel
theorem d15_118 : decode prog_67_method_2_code 118 = .ok (.aload_n 0, 1) := by decide +kernel
theorem d15_119 : decode prog_67_method_2_code 119 = .ok (.getfield 9, 3) := by decide +kernel
theorem d15_122 : decode prog_67_method_2_code 122 = .ok (.iconst 3, 1) := by decide +kernel
theorem d15_123 : decode prog_67_method_2_code 123 = .ok (.aload_n 0, 1) := by decide +kernel
theorem d15_124 : decode prog_67_method_2_code 124 = .ok (.getfield 44, 3) := by decide +kernel
theorem d15_127 : decode prog_67_method_2_code 127 = .ok (.imul, 1) := by decide +kernel
theorem d15_128 : decode prog_67_method_2_code 128 = .ok (.iconst 2, 1) := by decide +kernel
theorem d15_129 : decode prog_67_method_2_code 129 = .ok (.iadd, 1) := by decide +kernel
theorem d15_130 : decode prog_67_method_2_code 130 = .ok (.iload_n 1, 1) := by decide +kernel
theorem d15_131 : decode prog_67_method_2_code 131 = .ok (.iastore, 1) := by decide +kernel
theorem d15_132 : decode prog_67_method_2_code 132 = .ok (.aload_n 0, 1) := by decide +kernel
theorem d15_133 : decode prog_67_method_2_code 133 = .ok (.getfield 28, 3) := by decide +kernel
theorem d15_136 : decode prog_67_method_2_code 136 = .ok (.iload_n 1, 1) := by decide +kernel
theorem d15_137 : decode prog_67_method_2_code 137 = .ok (.aload_n 0, 1) := by decide +kernel
theorem d15_138 : decode prog_67_method_2_code 138 = .ok (.getfield 44, 3) := by decide +kernel
theorem d15_141 : decode prog_67_method_2_code 141 = .ok (.iastore, 1) := by decide +kernel
theorem d15_142 : decode prog_67_method_2_code 142 = .ok (.aload_n 0, 1) := by decide +kernel
theorem d15_143 : decode prog_67_method_2_code 143 = .ok (.getfield 31, 3) := by decide +kernel
theorem d15_146 : decode prog_67_method_2_code 146 = .ok (.iload_n 1, 1) := by decide +kernel
theorem d15_147 : decode prog_67_method_2_code 147 = .ok (.aload_n 0, 1) := by decide +kernel
theorem d15_148 : decode prog_67_method_2_code 148 = .ok (.getfield 40, 3) := by decide +kernel
theorem d15_151 : decode prog_67_method_2_code 151 = .ok (.iastore, 1) := by decide +kernel
theorem d15_152 : decode prog_67_method_2_code 152 = .ok (.aload_n 0, 1) := by decide +kernel
theorem d15_153 : decode prog_67_method_2_code 153 = .ok (.dup, 1) := by decide +kernel
theorem d15_154 : decode prog_67_method_2_code 154 = .ok (.getfield 44, 3) := by decide +kernel
theorem d15_157 : decode prog_67_method_2_code 157 = .ok (.iconst 1, 1) := by decide +kernel
theorem d15_158 : decode prog_67_method_2_code 158 = .ok (.iadd, 1) := by decide +kernel
theorem d15_159 : decode prog_67_method_2_code 159 = .ok (.putfield 44, 3) := by decide +kernel
theorem d15_162 : decode prog_67_method_2_code 162 = .ok (.return_, 1) := by decide +kernel
theorem pn_15 : plainName "com/example/tilecairn/tilecairn/zonal/CoveredBlocks$Builder" = true := by first | (simp [plainName, overriddenIn]; done) | decide +kernel
theorem ef_15 (m : MethodId) (x0 : Addr) (x1 : Int32) (x2 : Int32) : entryFrame m #[(.ref x0), (.int x1), (.int x2)] 4 = mkF m 0 #[.val (.ref x0), .val (.int x1), .val (.int x2), .unset] [] := by first | (simp [entryFrame, mkF, argsToLocals, Value.category]; done) | rfl
def Q15 (Z : State) (a1 : Addr) (p2 : Int32) (p3 : Int32) (la ru sa on ow : Addr) (rc br : Int32) (rs ss : List Value) (b : Int) (h0 : Heap) (n0 : Nat) (v : Option Value) (h : Heap) (L : List Loc) : Prop := v = none ∧ Fr n0 L ∧ n0 ≤ h.size ∧ own_B Z h la a1 ru sa on ow (rc + (1 : Int32)) br (own_put rs rc p3 p2) ss br.toInt
set_option maxRecDepth 65536 in
set_option maxHeartbeats 40000000 in
theorem rm15 (l : Launch) (Z : State) (a0 : Array Value) (hw : ∀ d ∈ tables_1, d.before a0 Z = true) (ws : List Jvm.Cond) (a1 : Addr) (p2 : Int32) (p3 : Int32) (la ru sa on ow : Addr) (rc br : Int32) (rs ss : List Value) (b : Int) (h0 : Heap) (n0 : Nat) (Z0 : n0 ≤ h0.size) (S : own_B Z h0 la a1 ru sa on ow rc br rs ss b) (hl : rs.length = 6) (hrc : rc = 0 ∨ rc = 1) (hp : ¬ p2 < 0 ∧ p2 < (2 : Int32)) (hbr : b < br.toInt) (hch : @LT.lt Nat _ la a1 ∧ @LT.lt Nat _ a1 ru ∧ @LT.lt Nat _ ru sa ∧ @LT.lt Nat _ sa on ∧ @LT.lt Nat _ on ow) (gl : n0 ≤ la) :
    MetFree l (⟨"com/example/tilecairn/tilecairn/zonal/CoveredBlocks$Builder", "add", "(II)V"⟩ : MethodName) (head1 (Jvm.Cond.code (⟨"com/example/tilecairn/tilecairn/zonal/CoveredBlocks$Builder", "add", "(II)V"⟩ : MethodName) prog_67_method_2_code 4 none :: ws) ({ frames := 0, cells := 0, slots := 0, locals := 0 } : Room)) (fun a U => a = #[(.ref a1), (.int p2), (.int p3)] ∧ Z.Warmed39 U.vm ∧ U.heap = h0) (fun _ _ _ _ _ => True) (fun _ U o U' => ∃ v L, o = .returned v ∧ Q15 Z a1 p2 p3 la ru sa on ow rc br rs ss b h0 n0 v U'.heap L ∧ FrameEnd U o U' L ({ frames := 0, cells := 0, slots := 0, locals := 0 } : Room).cells ({ frames := 0, cells := 0, slots := 0, locals := 0 } : Room).slots) := by
  refine MetFree.of_bodySF (plainFor_of_name pn_15) hisR ?_
  intro p e s m args below meth c s₁ Bd hml0 hP hK
  obtain ⟨rfl, hZ, hh⟩ := hP
  have hx := Bd.exec
  have hby := Bd.bytes
  have hml : c.maxLocals = 4 := hml0
  have hown : s.vm.findClass "com/example/tilecairn/tilecairn/zonal/CoveredBlocks$Builder" = some m.cls := findClass_of_methodNamed Bd.named
  have hnm := (name_of_methodNamed Bd.named Bd.method).1
  have X0 : Stand p l e ({ frames := 0, cells := 0, slots := 0, locals := 0 } : Room) s m #[(.ref a1), (.int p2), (.int p3)] below meth c s₁ [] 0 0 := Stand.of_body Bd
  have e0 : s₁.heap = h0 := by rw [← hh, Bd.state]; rfl
  have N0 := Fr.nil n0
  have pre0 : ∀ t, Steps p.tables e below (s₁.setTop (mkF m 0 #[.val (.ref a1), .val (.int p2), .val (.int p3), .unset] [])) t → Steps p.tables e below (s₁.setTop (entryFrame m #[(.ref a1), (.int p2), (.int p3)] 4)) t := fun t k => castTop (ef_15 m a1 p2 p3) k
  obtain ⟨Ex, El, Fba, Fla, Fru, Fst, Fon, Fow, Frc, Fbr, ⟨kr, Vr⟩, ⟨ks, Vs⟩, ⟨cn, An, Sn⟩, ⟨cw, Aw, Sw, Hw⟩⟩ := S
  obtain ⟨c1, c2, c3, c4, c5⟩ := hch
  obtain ⟨cr, Ar, qr, Sr, Mr, Hr, Gr⟩ := Vr
  have hinw : ¬ (p2 < 0 ∨ cw.slots.size ≤ p2.toNatClampNeg) := inb_of Sw hp
  have hinn : ¬ (p2 < 0 ∨ cn.slots.size ≤ p2.toNatClampNeg) := inb_of Sn hp
  have hp2 : p2.toNatClampNeg < 2 := by have := Nat.lt_of_not_le (fun q => hinw (Or.inr q)); rw [Sw] at this; exact this
  obtain ⟨w, hat, hwb⟩ := Hw _ hp2
  have hwne : ¬ w = br := fun q => by rw [q] at hwb; omega
  have i0 : (¬ (3 : Int32) * rc < 0 ∧ (3 : Int32) * rc < (192 : Int32)) ∧ ((3 : Int32) * rc).toNatClampNeg < 6 := by rcases hrc with rfl | rfl <;> decide
  have i1 : (¬ (3 : Int32) * rc + (1 : Int32) < 0 ∧ (3 : Int32) * rc + (1 : Int32) < (192 : Int32)) ∧ ((3 : Int32) * rc + (1 : Int32)).toNatClampNeg < 6 := by rcases hrc with rfl | rfl <;> decide
  have i2 : (¬ (3 : Int32) * rc + (2 : Int32) < 0 ∧ (3 : Int32) * rc + (2 : Int32) < (192 : Int32)) ∧ ((3 : Int32) * rc + (2 : Int32)).toNatClampNeg < 6 := by rcases hrc with rfl | rfl <;> decide
  have hfull : ¬ ((3 : Int32) * rc) = (192 : Int32) := by rcases hrc with rfl | rfl <;> decide
  have hc10_1 : ¬ (w = br) := hwne
  have hc69_1 : ¬ (((3 : Int32) * rc) = (192 : Int32)) := hfull
  obtain ⟨T5_1, X5_1, e5_1, st5_1⟩ := getF X0 hx hZ hown (host := "") (Or.inl (hw _ (List.mem_of_getElem? (i := 46) rfl))) Via.refl e0 Fow (g := (mkF m 1 #[.val (.ref a1), .val (.int p2), .val (.int p3), .unset] [(.ref a1)])) rfl rfl (hb hby d15_1)
  obtain ⟨T8_1, X8_1, e8_1, st8_1⟩ := getF X5_1 hx hZ hown (host := "") (Or.inl (hw _ (List.mem_of_getElem? (i := 57) rfl))) Via.refl e5_1 Fbr (g := (mkF m 7 #[.val (.ref a1), .val (.int p2), .val (.int p3), .unset] [(.ref a1), (.int w)])) rfl rfl (hb hby d15_7)
  obtain ⟨T10_1, X10_1, e10_1, st10_1⟩ := getF X8_1 hx hZ hown (host := "") (Or.inl (hw _ (List.mem_of_getElem? (i := 59) rfl))) Via.refl e8_1 Frc (g := (mkF m 60 #[.val (.ref a1), .val (.int p2), .val (.int p3), .unset] [(.ref a1), (.int (3 : Int32))])) rfl rfl (hb hby d15_60)
  obtain ⟨T12_1, X12_1, e12_1, st12_1⟩ := getF X10_1 hx hZ hown (host := "") (Or.inl (hw _ (List.mem_of_getElem? (i := 33) rfl))) Via.refl e10_1 Fru (g := (mkF m 65 #[.val (.ref a1), .val (.int p2), .val (.int p3), .unset] [(.ref a1), (.int ((3 : Int32) * rc))])) rfl rfl (hb hby d15_65)
  obtain ⟨T13_1, X13_1, e13_1, st13_1⟩ := getF X12_1 hx hZ hown (host := "") (Or.inl (hw _ (List.mem_of_getElem? (i := 33) rfl))) Via.refl e12_1 Fru (g := (mkF m 91 #[.val (.ref a1), .val (.int p2), .val (.int p3), .unset] [(.ref a1)])) rfl rfl (hb hby d15_91)
  obtain ⟨T14_1, X14_1, e14_1, st14_1⟩ := getF X13_1 hx hZ hown (host := "") (Or.inl (hw _ (List.mem_of_getElem? (i := 59) rfl))) Via.refl e13_1 Frc (g := (mkF m 96 #[.val (.ref a1), .val (.int p2), .val (.int p3), .unset] [(.ref a1), (.int (3 : Int32)), (.ref ru)])) rfl rfl (hb hby d15_96)
  obtain ⟨T15_1, h15_1, X15_1, e15_1, W15_1, st15_1⟩ := stI X14_1 hx hZ e14_1 Ar (j := ((3 : Int32) * rc)) (inb_of Sr i0.1) (g := (mkF m 101 #[.val (.ref a1), .val (.int p2), .val (.int p3), .unset] [(.int p3), (.int ((3 : Int32) * rc)), (.ref ru)])) rfl rfl (hb hby d15_101)
  have N15_1 := Fr.snoc X15_1 N0 (by omega : n0 ≤ ru)
  have K15_1 : Keep h0 h15_1 [ru, on, ow, a1] := (Keep.refl h0 [ru, on, ow, a1]).wr W15_1 (Or.inl (List.mem_of_getElem? (i := 0) rfl))
  obtain ⟨T16_1, X16_1, e16_1, st16_1⟩ := getF X15_1 hx hZ hown (host := "") (Or.inl (hw _ (List.mem_of_getElem? (i := 33) rfl))) Via.refl e15_1 (Fru.other W15_1 (Or.inl (by omega : @Ne Nat a1 ru))) (g := (mkF m 103 #[.val (.ref a1), .val (.int p2), .val (.int p3), .unset] [(.ref a1)])) rfl rfl (hb hby d15_103)
  obtain ⟨T17_1, X17_1, e17_1, st17_1⟩ := getF X16_1 hx hZ hown (host := "") (Or.inl (hw _ (List.mem_of_getElem? (i := 59) rfl))) Via.refl e16_1 (Frc.other W15_1 (Or.inl (by omega : @Ne Nat a1 ru))) (g := (mkF m 108 #[.val (.ref a1), .val (.int p2), .val (.int p3), .unset] [(.ref a1), (.int (3 : Int32)), (.ref ru)])) rfl rfl (hb hby d15_108)
  obtain ⟨cr1, Ar1, qr1, Sr1, Mr1, Hr1, Gr1⟩ := Arv.set Ar qr Sr Mr Hr Gr rfl W15_1 _ rfl (by simp only [List.length_set, hl]; exact i0.2)
  obtain ⟨T18_1, h18_1, X18_1, e18_1, W18_1, st18_1⟩ := stI X17_1 hx hZ e17_1 Ar1 (j := (((3 : Int32) * rc) + (1 : Int32))) (inb_of Sr1 i1.1) (g := (mkF m 117 #[.val (.ref a1), .val (.int p2), .val (.int p3), .unset] [(.int (p3 + (1 : Int32))), (.int (((3 : Int32) * rc) + (1 : Int32))), (.ref ru)])) rfl rfl (hb hby d15_117)
  have N18_1 := Fr.snoc X18_1 N15_1 (by omega : n0 ≤ ru)
  have K18_1 : Keep h0 h18_1 [ru, on, ow, a1] := K15_1.wr W18_1 (Or.inl (List.mem_of_getElem? (i := 0) rfl))
  obtain ⟨T19_1, X19_1, e19_1, st19_1⟩ := getF X18_1 hx hZ hown (host := "") (Or.inl (hw _ (List.mem_of_getElem? (i := 33) rfl))) Via.refl e18_1 ((Fru.other W15_1 (Or.inl (by omega : @Ne Nat a1 ru))).other W18_1 (Or.inl (by omega : @Ne Nat a1 ru))) (g := (mkF m 119 #[.val (.ref a1), .val (.int p2), .val (.int p3), .unset] [(.ref a1)])) rfl rfl (hb hby d15_119)
  obtain ⟨T20_1, X20_1, e20_1, st20_1⟩ := getF X19_1 hx hZ hown (host := "") (Or.inl (hw _ (List.mem_of_getElem? (i := 59) rfl))) Via.refl e19_1 ((Frc.other W15_1 (Or.inl (by omega : @Ne Nat a1 ru))).other W18_1 (Or.inl (by omega : @Ne Nat a1 ru))) (g := (mkF m 124 #[.val (.ref a1), .val (.int p2), .val (.int p3), .unset] [(.ref a1), (.int (3 : Int32)), (.ref ru)])) rfl rfl (hb hby d15_124)
  obtain ⟨cr2, Ar2, qr2, Sr2, Mr2, Hr2, Gr2⟩ := Arv.set Ar1 qr1 Sr1 Mr1 Hr1 Gr1 rfl W18_1 _ rfl (by simp only [List.length_set, hl]; exact i1.2)
  obtain ⟨T21_1, h21_1, X21_1, e21_1, W21_1, st21_1⟩ := stI X20_1 hx hZ e20_1 Ar2 (j := (((3 : Int32) * rc) + (2 : Int32))) (inb_of Sr2 i2.1) (g := (mkF m 131 #[.val (.ref a1), .val (.int p2), .val (.int p3), .unset] [(.int p2), (.int (((3 : Int32) * rc) + (2 : Int32))), (.ref ru)])) rfl rfl (hb hby d15_131)
  have N21_1 := Fr.snoc X21_1 N18_1 (by omega : n0 ≤ ru)
  have K21_1 : Keep h0 h21_1 [ru, on, ow, a1] := K18_1.wr W21_1 (Or.inl (List.mem_of_getElem? (i := 0) rfl))
  obtain ⟨T23_1, X23_1, e23_1, st23_1⟩ := getF X21_1 hx hZ hown (host := "") (Or.inl (hw _ (List.mem_of_getElem? (i := 44) rfl))) Via.refl e21_1 (((Fon.other W15_1 (Or.inl (by omega : @Ne Nat a1 ru))).other W18_1 (Or.inl (by omega : @Ne Nat a1 ru))).other W21_1 (Or.inl (by omega : @Ne Nat a1 ru))) (g := (mkF m 133 #[.val (.ref a1), .val (.int p2), .val (.int p3), .unset] [(.ref a1)])) rfl rfl (hb hby d15_133)
  obtain ⟨T24_1, X24_1, e24_1, st24_1⟩ := getF X23_1 hx hZ hown (host := "") (Or.inl (hw _ (List.mem_of_getElem? (i := 59) rfl))) Via.refl e23_1 (((Frc.other W15_1 (Or.inl (by omega : @Ne Nat a1 ru))).other W18_1 (Or.inl (by omega : @Ne Nat a1 ru))).other W21_1 (Or.inl (by omega : @Ne Nat a1 ru))) (g := (mkF m 138 #[.val (.ref a1), .val (.int p2), .val (.int p3), .unset] [(.ref a1), (.int p2), (.ref on)])) rfl rfl (hb hby d15_138)
  obtain ⟨T25_1, h25_1, X25_1, e25_1, W25_1, st25_1⟩ := stI X24_1 hx hZ e24_1 (((An.other W15_1 (by omega : @Ne Nat on ru)).other W18_1 (by omega : @Ne Nat on ru)).other W21_1 (by omega : @Ne Nat on ru)) (j := p2) hinn (g := (mkF m 141 #[.val (.ref a1), .val (.int p2), .val (.int p3), .unset] [(.int rc), (.int p2), (.ref on)])) rfl rfl (hb hby d15_141)
  have N25_1 := Fr.snoc X25_1 N21_1 (by omega : n0 ≤ on)
  have K25_1 : Keep h0 h25_1 [ru, on, ow, a1] := K21_1.wr W25_1 (Or.inl (List.mem_of_getElem? (i := 1) rfl))
  obtain ⟨T26_1, X26_1, e26_1, st26_1⟩ := getF X25_1 hx hZ hown (host := "") (Or.inl (hw _ (List.mem_of_getElem? (i := 46) rfl))) Via.refl e25_1 ((((Fow.other W15_1 (Or.inl (by omega : @Ne Nat a1 ru))).other W18_1 (Or.inl (by omega : @Ne Nat a1 ru))).other W21_1 (Or.inl (by omega : @Ne Nat a1 ru))).other W25_1 (Or.inl (by omega : @Ne Nat a1 on))) (g := (mkF m 143 #[.val (.ref a1), .val (.int p2), .val (.int p3), .unset] [(.ref a1)])) rfl rfl (hb hby d15_143)
  obtain ⟨T27_1, X27_1, e27_1, st27_1⟩ := getF X26_1 hx hZ hown (host := "") (Or.inl (hw _ (List.mem_of_getElem? (i := 57) rfl))) Via.refl e26_1 ((((Fbr.other W15_1 (Or.inl (by omega : @Ne Nat a1 ru))).other W18_1 (Or.inl (by omega : @Ne Nat a1 ru))).other W21_1 (Or.inl (by omega : @Ne Nat a1 ru))).other W25_1 (Or.inl (by omega : @Ne Nat a1 on))) (g := (mkF m 148 #[.val (.ref a1), .val (.int p2), .val (.int p3), .unset] [(.ref a1), (.int p2), (.ref ow)])) rfl rfl (hb hby d15_148)
  obtain ⟨T28_1, h28_1, X28_1, e28_1, W28_1, st28_1⟩ := stI X27_1 hx hZ e27_1 ((((Aw.other W15_1 (by omega : @Ne Nat ow ru)).other W18_1 (by omega : @Ne Nat ow ru)).other W21_1 (by omega : @Ne Nat ow ru)).other W25_1 (by omega : @Ne Nat ow on)) (j := p2) hinw (g := (mkF m 151 #[.val (.ref a1), .val (.int p2), .val (.int p3), .unset] [(.int br), (.int p2), (.ref ow)])) rfl rfl (hb hby d15_151)
  have N28_1 := Fr.snoc X28_1 N25_1 (by omega : n0 ≤ ow)
  have K28_1 : Keep h0 h28_1 [ru, on, ow, a1] := K25_1.wr W28_1 (Or.inl (List.mem_of_getElem? (i := 2) rfl))
  obtain ⟨T29_1, X29_1, e29_1, st29_1⟩ := getF X28_1 hx hZ hown (host := "") (Or.inl (hw _ (List.mem_of_getElem? (i := 59) rfl))) Via.refl e28_1 (((((Frc.other W15_1 (Or.inl (by omega : @Ne Nat a1 ru))).other W18_1 (Or.inl (by omega : @Ne Nat a1 ru))).other W21_1 (Or.inl (by omega : @Ne Nat a1 ru))).other W25_1 (Or.inl (by omega : @Ne Nat a1 on))).other W28_1 (Or.inl (by omega : @Ne Nat a1 ow))) (g := (mkF m 154 #[.val (.ref a1), .val (.int p2), .val (.int p3), .unset] [(.ref a1), (.ref a1)])) rfl rfl (hb hby d15_154)
  obtain ⟨T30_1, h30_1, X30_1, e30_1, W30_1, st30_1⟩ := putF X29_1 hx hZ hown (host := "") (Or.inl (hw _ (List.mem_of_getElem? (i := 59) rfl))) Via.refl e29_1 (((((Frc.other W15_1 (Or.inl (by omega : @Ne Nat a1 ru))).other W18_1 (Or.inl (by omega : @Ne Nat a1 ru))).other W21_1 (Or.inl (by omega : @Ne Nat a1 ru))).other W25_1 (Or.inl (by omega : @Ne Nat a1 on))).other W28_1 (Or.inl (by omega : @Ne Nat a1 ow))) (((((Ex.wr W15_1).wr W18_1).wr W21_1).wr W25_1).wr W28_1) (Or.inl (hw _ (List.mem_of_getElem? (i := 60) rfl))) (hw _ (List.mem_of_getElem? (i := 26) rfl)) (ty := .int) (by decide) rfl rfl (g := (mkF m 159 #[.val (.ref a1), .val (.int p2), .val (.int p3), .unset] [(.int (rc + (1 : Int32))), (.ref a1)])) rfl rfl (hb hby d15_159)
  have Fw30_1 := (((((Frc.other W15_1 (Or.inl (by omega : @Ne Nat a1 ru))).other W18_1 (Or.inl (by omega : @Ne Nat a1 ru))).other W21_1 (Or.inl (by omega : @Ne Nat a1 ru))).other W25_1 (Or.inl (by omega : @Ne Nat a1 on))).other W28_1 (Or.inl (by omega : @Ne Nat a1 ow))).same W30_1
  have K30_1 : Keep h0 h30_1 [ru, on, ow, a1] := K28_1.wr W30_1 (Or.inl (List.mem_of_getElem? (i := 3) rfl))
  have N30_1 := Fr.snoc X30_1 N28_1 (by omega : n0 ≤ a1)
  have st_1p : ∀ target, Steps p.tables e below (T30_1.setTop (mkF m 162 #[.val (.ref a1), .val (.int p2), .val (.int p3), .unset] [])) target → Steps p.tables e below (s₁.setTop (mkF m 0 #[.val (.ref a1), .val (.int p2), .val (.int p3), .unset] [])) target := by
    intro target kt
    show Steps p.tables e below (s₁.setTop (mkF m 0 #[.val (.ref a1), .val (.int p2), .val (.int p3), .unset] [])) _
    refine XS.aloadN X0.here hx rfl (hb hby d15_0) rfl rfl ?_
    show Steps p.tables e below (s₁.setTop (mkF m 1 #[.val (.ref a1), .val (.int p2), .val (.int p3), .unset] [(.ref a1)])) _
    refine st5_1 _ ?_
    show Steps p.tables e below (T5_1.setTop (mkF m 4 #[.val (.ref a1), .val (.int p2), .val (.int p3), .unset] [(.ref ow)])) _
    refine XS.iloadN X5_1.here hx rfl (hb hby d15_4) rfl ?_
    show Steps p.tables e below (T5_1.setTop (mkF m 5 #[.val (.ref a1), .val (.int p2), .val (.int p3), .unset] [(.int p2), (.ref ow)])) _
    refine X5_1.iaload hx (j := p2) (v := (.int w)) (by rw [e5_1]; exact Aw.1) (State.isArrayOf_alike hZ.alike Aw.2.1) Aw.2.2 hinw hat (g := (mkF m 5 #[.val (.ref a1), .val (.int p2), .val (.int p3), .unset] [(.int p2), (.ref ow)])) rfl rfl (hb hby d15_5) _ ?_
    show Steps p.tables e below (T5_1.setTop (mkF m 6 #[.val (.ref a1), .val (.int p2), .val (.int p3), .unset] [(.int w)])) _
    refine XS.aloadN X5_1.here hx rfl (hb hby d15_6) rfl rfl ?_
    show Steps p.tables e below (T5_1.setTop (mkF m 7 #[.val (.ref a1), .val (.int p2), .val (.int p3), .unset] [(.ref a1), (.int w)])) _
    refine st8_1 _ ?_
    show Steps p.tables e below (T8_1.setTop (mkF m 10 #[.val (.ref a1), .val (.int p2), .val (.int p3), .unset] [(.int br), (.int w)])) _
    refine XS.icmpYes X8_1.here hx rfl (pc0 := 10) (pc' := 58) rfl (hb hby d15_10) rfl (feq hc10_1).2 (by decide) (by decide) ?_
    show Steps p.tables e below (T8_1.setTop (mkF m 58 #[.val (.ref a1), .val (.int p2), .val (.int p3), .unset] [])) _
    refine XS.iconst X8_1.here hx rfl (hb hby d15_58) ?_
    show Steps p.tables e below (T8_1.setTop (mkF m 59 #[.val (.ref a1), .val (.int p2), .val (.int p3), .unset] [(.int (3 : Int32))])) _
    refine XS.aloadN X8_1.here hx rfl (hb hby d15_59) rfl rfl ?_
    show Steps p.tables e below (T8_1.setTop (mkF m 60 #[.val (.ref a1), .val (.int p2), .val (.int p3), .unset] [(.ref a1), (.int (3 : Int32))])) _
    refine st10_1 _ ?_
    show Steps p.tables e below (T10_1.setTop (mkF m 63 #[.val (.ref a1), .val (.int p2), .val (.int p3), .unset] [(.int rc), (.int (3 : Int32))])) _
    refine XS.imul X10_1.here hx rfl (hb hby d15_63) rfl ?_
    show Steps p.tables e below (T10_1.setTop (mkF m 64 #[.val (.ref a1), .val (.int p2), .val (.int p3), .unset] [(.int ((3 : Int32) * rc))])) _
    refine XS.aloadN X10_1.here hx rfl (hb hby d15_64) rfl rfl ?_
    show Steps p.tables e below (T10_1.setTop (mkF m 65 #[.val (.ref a1), .val (.int p2), .val (.int p3), .unset] [(.ref a1), (.int ((3 : Int32) * rc))])) _
    refine st12_1 _ ?_
    show Steps p.tables e below (T12_1.setTop (mkF m 68 #[.val (.ref a1), .val (.int p2), .val (.int p3), .unset] [(.ref ru), (.int ((3 : Int32) * rc))])) _
    refine X12_1.arraylength hx (by rw [e12_1]; exact Ar.1) (State.isArrayOf_alike hZ.alike Ar.2.1) (g := (mkF m 68 #[.val (.ref a1), .val (.int p2), .val (.int p3), .unset] [(.ref ru), (.int ((3 : Int32) * rc))])) rfl rfl (hb hby d15_68) _ ?_
    rw [len_of Sr Mr]
    show Steps p.tables e below (T12_1.setTop (mkF m 69 #[.val (.ref a1), .val (.int p2), .val (.int p3), .unset] [(.int (192 : Int32)), (.int ((3 : Int32) * rc))])) _
    refine XS.icmpYes X12_1.here hx rfl (pc0 := 69) (pc' := 90) rfl (hb hby d15_69) rfl (feq hc69_1).2 (by decide) (by decide) ?_
    show Steps p.tables e below (T12_1.setTop (mkF m 90 #[.val (.ref a1), .val (.int p2), .val (.int p3), .unset] [])) _
    refine XS.aloadN X12_1.here hx rfl (hb hby d15_90) rfl rfl ?_
    show Steps p.tables e below (T12_1.setTop (mkF m 91 #[.val (.ref a1), .val (.int p2), .val (.int p3), .unset] [(.ref a1)])) _
    refine st13_1 _ ?_
    show Steps p.tables e below (T13_1.setTop (mkF m 94 #[.val (.ref a1), .val (.int p2), .val (.int p3), .unset] [(.ref ru)])) _
    refine XS.iconst X13_1.here hx rfl (hb hby d15_94) ?_
    show Steps p.tables e below (T13_1.setTop (mkF m 95 #[.val (.ref a1), .val (.int p2), .val (.int p3), .unset] [(.int (3 : Int32)), (.ref ru)])) _
    refine XS.aloadN X13_1.here hx rfl (hb hby d15_95) rfl rfl ?_
    show Steps p.tables e below (T13_1.setTop (mkF m 96 #[.val (.ref a1), .val (.int p2), .val (.int p3), .unset] [(.ref a1), (.int (3 : Int32)), (.ref ru)])) _
    refine st14_1 _ ?_
    show Steps p.tables e below (T14_1.setTop (mkF m 99 #[.val (.ref a1), .val (.int p2), .val (.int p3), .unset] [(.int rc), (.int (3 : Int32)), (.ref ru)])) _
    refine XS.imul X14_1.here hx rfl (hb hby d15_99) rfl ?_
    show Steps p.tables e below (T14_1.setTop (mkF m 100 #[.val (.ref a1), .val (.int p2), .val (.int p3), .unset] [(.int ((3 : Int32) * rc)), (.ref ru)])) _
    refine XS.iloadN X14_1.here hx rfl (hb hby d15_100) rfl ?_
    show Steps p.tables e below (T14_1.setTop (mkF m 101 #[.val (.ref a1), .val (.int p2), .val (.int p3), .unset] [(.int p3), (.int ((3 : Int32) * rc)), (.ref ru)])) _
    refine st15_1 _ ?_
    show Steps p.tables e below (T15_1.setTop (mkF m 102 #[.val (.ref a1), .val (.int p2), .val (.int p3), .unset] [])) _
    refine XS.aloadN X15_1.here hx rfl (hb hby d15_102) rfl rfl ?_
    show Steps p.tables e below (T15_1.setTop (mkF m 103 #[.val (.ref a1), .val (.int p2), .val (.int p3), .unset] [(.ref a1)])) _
    refine st16_1 _ ?_
    show Steps p.tables e below (T16_1.setTop (mkF m 106 #[.val (.ref a1), .val (.int p2), .val (.int p3), .unset] [(.ref ru)])) _
    refine XS.iconst X16_1.here hx rfl (hb hby d15_106) ?_
    show Steps p.tables e below (T16_1.setTop (mkF m 107 #[.val (.ref a1), .val (.int p2), .val (.int p3), .unset] [(.int (3 : Int32)), (.ref ru)])) _
    refine XS.aloadN X16_1.here hx rfl (hb hby d15_107) rfl rfl ?_
    show Steps p.tables e below (T16_1.setTop (mkF m 108 #[.val (.ref a1), .val (.int p2), .val (.int p3), .unset] [(.ref a1), (.int (3 : Int32)), (.ref ru)])) _
    refine st17_1 _ ?_
    show Steps p.tables e below (T17_1.setTop (mkF m 111 #[.val (.ref a1), .val (.int p2), .val (.int p3), .unset] [(.int rc), (.int (3 : Int32)), (.ref ru)])) _
    refine XS.imul X17_1.here hx rfl (hb hby d15_111) rfl ?_
    show Steps p.tables e below (T17_1.setTop (mkF m 112 #[.val (.ref a1), .val (.int p2), .val (.int p3), .unset] [(.int ((3 : Int32) * rc)), (.ref ru)])) _
    refine XS.iconst X17_1.here hx rfl (hb hby d15_112) ?_
    show Steps p.tables e below (T17_1.setTop (mkF m 113 #[.val (.ref a1), .val (.int p2), .val (.int p3), .unset] [(.int (1 : Int32)), (.int ((3 : Int32) * rc)), (.ref ru)])) _
    refine XS.iadd X17_1.here hx rfl (hb hby d15_113) rfl ?_
    show Steps p.tables e below (T17_1.setTop (mkF m 114 #[.val (.ref a1), .val (.int p2), .val (.int p3), .unset] [(.int (((3 : Int32) * rc) + (1 : Int32))), (.ref ru)])) _
    refine XS.iloadN X17_1.here hx rfl (hb hby d15_114) rfl ?_
    show Steps p.tables e below (T17_1.setTop (mkF m 115 #[.val (.ref a1), .val (.int p2), .val (.int p3), .unset] [(.int p3), (.int (((3 : Int32) * rc) + (1 : Int32))), (.ref ru)])) _
    refine XS.iconst X17_1.here hx rfl (hb hby d15_115) ?_
    show Steps p.tables e below (T17_1.setTop (mkF m 116 #[.val (.ref a1), .val (.int p2), .val (.int p3), .unset] [(.int (1 : Int32)), (.int p3), (.int (((3 : Int32) * rc) + (1 : Int32))), (.ref ru)])) _
    refine XS.iadd X17_1.here hx rfl (hb hby d15_116) rfl ?_
    show Steps p.tables e below (T17_1.setTop (mkF m 117 #[.val (.ref a1), .val (.int p2), .val (.int p3), .unset] [(.int (p3 + (1 : Int32))), (.int (((3 : Int32) * rc) + (1 : Int32))), (.ref ru)])) _
    refine st18_1 _ ?_
    show Steps p.tables e below (T18_1.setTop (mkF m 118 #[.val (.ref a1), .val (.int p2), .val (.int p3), .unset] [])) _
    refine XS.aloadN X18_1.here hx rfl (hb hby d15_118) rfl rfl ?_
    show Steps p.tables e below (T18_1.setTop (mkF m 119 #[.val (.ref a1), .val (.int p2), .val (.int p3), .unset] [(.ref a1)])) _
    refine st19_1 _ ?_
    show Steps p.tables e below (T19_1.setTop (mkF m 122 #[.val (.ref a1), .val (.int p2), .val (.int p3), .unset] [(.ref ru)])) _
    refine XS.iconst X19_1.here hx rfl (hb hby d15_122) ?_
    show Steps p.tables e below (T19_1.setTop (mkF m 123 #[.val (.ref a1), .val (.int p2), .val (.int p3), .unset] [(.int (3 : Int32)), (.ref ru)])) _
    refine XS.aloadN X19_1.here hx rfl (hb hby d15_123) rfl rfl ?_
    show Steps p.tables e below (T19_1.setTop (mkF m 124 #[.val (.ref a1), .val (.int p2), .val (.int p3), .unset] [(.ref a1), (.int (3 : Int32)), (.ref ru)])) _
    refine st20_1 _ ?_
    show Steps p.tables e below (T20_1.setTop (mkF m 127 #[.val (.ref a1), .val (.int p2), .val (.int p3), .unset] [(.int rc), (.int (3 : Int32)), (.ref ru)])) _
    refine XS.imul X20_1.here hx rfl (hb hby d15_127) rfl ?_
    show Steps p.tables e below (T20_1.setTop (mkF m 128 #[.val (.ref a1), .val (.int p2), .val (.int p3), .unset] [(.int ((3 : Int32) * rc)), (.ref ru)])) _
    refine XS.iconst X20_1.here hx rfl (hb hby d15_128) ?_
    show Steps p.tables e below (T20_1.setTop (mkF m 129 #[.val (.ref a1), .val (.int p2), .val (.int p3), .unset] [(.int (2 : Int32)), (.int ((3 : Int32) * rc)), (.ref ru)])) _
    refine XS.iadd X20_1.here hx rfl (hb hby d15_129) rfl ?_
    show Steps p.tables e below (T20_1.setTop (mkF m 130 #[.val (.ref a1), .val (.int p2), .val (.int p3), .unset] [(.int (((3 : Int32) * rc) + (2 : Int32))), (.ref ru)])) _
    refine XS.iloadN X20_1.here hx rfl (hb hby d15_130) rfl ?_
    show Steps p.tables e below (T20_1.setTop (mkF m 131 #[.val (.ref a1), .val (.int p2), .val (.int p3), .unset] [(.int p2), (.int (((3 : Int32) * rc) + (2 : Int32))), (.ref ru)])) _
    refine st21_1 _ ?_
    show Steps p.tables e below (T21_1.setTop (mkF m 132 #[.val (.ref a1), .val (.int p2), .val (.int p3), .unset] [])) _
    refine XS.aloadN X21_1.here hx rfl (hb hby d15_132) rfl rfl ?_
    show Steps p.tables e below (T21_1.setTop (mkF m 133 #[.val (.ref a1), .val (.int p2), .val (.int p3), .unset] [(.ref a1)])) _
    refine st23_1 _ ?_
    show Steps p.tables e below (T23_1.setTop (mkF m 136 #[.val (.ref a1), .val (.int p2), .val (.int p3), .unset] [(.ref on)])) _
    refine XS.iloadN X23_1.here hx rfl (hb hby d15_136) rfl ?_
    show Steps p.tables e below (T23_1.setTop (mkF m 137 #[.val (.ref a1), .val (.int p2), .val (.int p3), .unset] [(.int p2), (.ref on)])) _
    refine XS.aloadN X23_1.here hx rfl (hb hby d15_137) rfl rfl ?_
    show Steps p.tables e below (T23_1.setTop (mkF m 138 #[.val (.ref a1), .val (.int p2), .val (.int p3), .unset] [(.ref a1), (.int p2), (.ref on)])) _
    refine st24_1 _ ?_
    show Steps p.tables e below (T24_1.setTop (mkF m 141 #[.val (.ref a1), .val (.int p2), .val (.int p3), .unset] [(.int rc), (.int p2), (.ref on)])) _
    refine st25_1 _ ?_
    show Steps p.tables e below (T25_1.setTop (mkF m 142 #[.val (.ref a1), .val (.int p2), .val (.int p3), .unset] [])) _
    refine XS.aloadN X25_1.here hx rfl (hb hby d15_142) rfl rfl ?_
    show Steps p.tables e below (T25_1.setTop (mkF m 143 #[.val (.ref a1), .val (.int p2), .val (.int p3), .unset] [(.ref a1)])) _
    refine st26_1 _ ?_
    show Steps p.tables e below (T26_1.setTop (mkF m 146 #[.val (.ref a1), .val (.int p2), .val (.int p3), .unset] [(.ref ow)])) _
    refine XS.iloadN X26_1.here hx rfl (hb hby d15_146) rfl ?_
    show Steps p.tables e below (T26_1.setTop (mkF m 147 #[.val (.ref a1), .val (.int p2), .val (.int p3), .unset] [(.int p2), (.ref ow)])) _
    refine XS.aloadN X26_1.here hx rfl (hb hby d15_147) rfl rfl ?_
    show Steps p.tables e below (T26_1.setTop (mkF m 148 #[.val (.ref a1), .val (.int p2), .val (.int p3), .unset] [(.ref a1), (.int p2), (.ref ow)])) _
    refine st27_1 _ ?_
    show Steps p.tables e below (T27_1.setTop (mkF m 151 #[.val (.ref a1), .val (.int p2), .val (.int p3), .unset] [(.int br), (.int p2), (.ref ow)])) _
    refine st28_1 _ ?_
    show Steps p.tables e below (T28_1.setTop (mkF m 152 #[.val (.ref a1), .val (.int p2), .val (.int p3), .unset] [])) _
    refine XS.aloadN X28_1.here hx rfl (hb hby d15_152) rfl rfl ?_
    show Steps p.tables e below (T28_1.setTop (mkF m 153 #[.val (.ref a1), .val (.int p2), .val (.int p3), .unset] [(.ref a1)])) _
    refine XS.dup X28_1.here hx rfl (hb hby d15_153) rfl rfl ?_
    show Steps p.tables e below (T28_1.setTop (mkF m 154 #[.val (.ref a1), .val (.int p2), .val (.int p3), .unset] [(.ref a1), (.ref a1)])) _
    refine st29_1 _ ?_
    show Steps p.tables e below (T29_1.setTop (mkF m 157 #[.val (.ref a1), .val (.int p2), .val (.int p3), .unset] [(.int rc), (.ref a1)])) _
    refine XS.iconst X29_1.here hx rfl (hb hby d15_157) ?_
    show Steps p.tables e below (T29_1.setTop (mkF m 158 #[.val (.ref a1), .val (.int p2), .val (.int p3), .unset] [(.int (1 : Int32)), (.int rc), (.ref a1)])) _
    refine XS.iadd X29_1.here hx rfl (hb hby d15_158) rfl ?_
    show Steps p.tables e below (T29_1.setTop (mkF m 159 #[.val (.ref a1), .val (.int p2), .val (.int p3), .unset] [(.int (rc + (1 : Int32))), (.ref a1)])) _
    refine st30_1 _ ?_
    exact kt
  have V21 := Arv.set Ar2 qr2 Sr2 Mr2 Hr2 Gr2 rfl W21_1 _ rfl (by simp only [List.length_set, hl]; exact i2.2)
  have A25 := (((An.other W15_1 (by omega : @Ne Nat on ru)).other W18_1 (by omega : @Ne Nat on ru)).other W21_1 (by omega : @Ne Nat on ru)).same W25_1
  have A28 := ((((Aw.other W15_1 (by omega : @Ne Nat ow ru)).other W18_1 (by omega : @Ne Nat ow ru)).other W21_1 (by omega : @Ne Nat ow ru)).other W25_1 (by omega : @Ne Nat ow on)).same W28_1
  obtain ⟨fs, hr, hrun, hended, hW, hsame⟩ := X30_1.leave (v := none) (fun _ => rfl)
  refine ⟨_, _, pre0 _ ?_, hrun, hended, _, _, rfl, ?_, ⟨_, rfl⟩, hW, hsame.mono (by decide) (by decide)⟩
  · show Steps p.tables e below (s₁.setTop (mkF m 0 #[.val (.ref a1), .val (.int p2), .val (.int p3), .unset] [])) _
    refine st_1p _ ?_
    exact X30_1.returnOut hx Bd.returns (hb hby d15_162) hr
  · show Q15 Z a1 p2 p3 la ru sa on ow rc br rs ss b h0 n0 _ T30_1.heap _
    rw [e30_1]
    exact ⟨rfl, N30_1, Nat.le_trans Z0 K30_1.1, ((((((Ex.wr W15_1).wr W18_1).wr W21_1).wr W25_1).wr W28_1).wr W30_1), ((((((El.wr W15_1).wr W18_1).wr W21_1).wr W25_1).wr W28_1).wr W30_1), ((((((Fba.other W15_1 (Or.inl (by omega : @Ne Nat la ru))).other W18_1 (Or.inl (by omega : @Ne Nat la ru))).other W21_1 (Or.inl (by omega : @Ne Nat la ru))).other W25_1 (Or.inl (by omega : @Ne Nat la on))).other W28_1 (Or.inl (by omega : @Ne Nat la ow))).other W30_1 (Or.inl (by omega : @Ne Nat la a1))), ((((((Fla.other W15_1 (Or.inl (by omega : @Ne Nat a1 ru))).other W18_1 (Or.inl (by omega : @Ne Nat a1 ru))).other W21_1 (Or.inl (by omega : @Ne Nat a1 ru))).other W25_1 (Or.inl (by omega : @Ne Nat a1 on))).other W28_1 (Or.inl (by omega : @Ne Nat a1 ow))).other W30_1 (Or.inr (slot_ne (Or.inr (hw _ (List.mem_of_getElem? (i := 36) rfl))) (Or.inl (hw _ (List.mem_of_getElem? (i := 60) rfl))) (by decide) (t := (.object "com/example/tilecairn/tilecairn/tiff/Layout")) (t' := .int) (by decide) (by decide)))), ((((((Fru.other W15_1 (Or.inl (by omega : @Ne Nat a1 ru))).other W18_1 (Or.inl (by omega : @Ne Nat a1 ru))).other W21_1 (Or.inl (by omega : @Ne Nat a1 ru))).other W25_1 (Or.inl (by omega : @Ne Nat a1 on))).other W28_1 (Or.inl (by omega : @Ne Nat a1 ow))).other W30_1 (Or.inr (slot_ne (Or.inl (hw _ (List.mem_of_getElem? (i := 34) rfl))) (Or.inl (hw _ (List.mem_of_getElem? (i := 60) rfl))) (by decide) (t := (.array .int)) (t' := .int) (by decide) (by decide)))), ((((((Fst.other W15_1 (Or.inl (by omega : @Ne Nat a1 ru))).other W18_1 (Or.inl (by omega : @Ne Nat a1 ru))).other W21_1 (Or.inl (by omega : @Ne Nat a1 ru))).other W25_1 (Or.inl (by omega : @Ne Nat a1 on))).other W28_1 (Or.inl (by omega : @Ne Nat a1 ow))).other W30_1 (Or.inr (slot_ne (Or.inr (hw _ (List.mem_of_getElem? (i := 43) rfl))) (Or.inl (hw _ (List.mem_of_getElem? (i := 60) rfl))) (by decide) (t := (.array .int)) (t' := .int) (by decide) (by decide)))), ((((((Fon.other W15_1 (Or.inl (by omega : @Ne Nat a1 ru))).other W18_1 (Or.inl (by omega : @Ne Nat a1 ru))).other W21_1 (Or.inl (by omega : @Ne Nat a1 ru))).other W25_1 (Or.inl (by omega : @Ne Nat a1 on))).other W28_1 (Or.inl (by omega : @Ne Nat a1 ow))).other W30_1 (Or.inr (slot_ne (Or.inr (hw _ (List.mem_of_getElem? (i := 45) rfl))) (Or.inl (hw _ (List.mem_of_getElem? (i := 60) rfl))) (by decide) (t := (.array .int)) (t' := .int) (by decide) (by decide)))), ((((((Fow.other W15_1 (Or.inl (by omega : @Ne Nat a1 ru))).other W18_1 (Or.inl (by omega : @Ne Nat a1 ru))).other W21_1 (Or.inl (by omega : @Ne Nat a1 ru))).other W25_1 (Or.inl (by omega : @Ne Nat a1 on))).other W28_1 (Or.inl (by omega : @Ne Nat a1 ow))).other W30_1 (Or.inr (slot_ne (Or.inr (hw _ (List.mem_of_getElem? (i := 47) rfl))) (Or.inl (hw _ (List.mem_of_getElem? (i := 60) rfl))) (by decide) (t := (.array .int)) (t' := .int) (by decide) (by decide)))), Fw30_1, ((((((Fbr.other W15_1 (Or.inl (by omega : @Ne Nat a1 ru))).other W18_1 (Or.inl (by omega : @Ne Nat a1 ru))).other W21_1 (Or.inl (by omega : @Ne Nat a1 ru))).other W25_1 (Or.inl (by omega : @Ne Nat a1 on))).other W28_1 (Or.inl (by omega : @Ne Nat a1 ow))).other W30_1 (Or.inr (slot_ne (Or.inl (hw _ (List.mem_of_getElem? (i := 58) rfl))) (Or.inl (hw _ (List.mem_of_getElem? (i := 60) rfl))) (by decide) (t := .int) (t' := .int) (by decide) (by decide)))), ⟨_, (((V21.other W25_1 (by omega : @Ne Nat ru on)).other W28_1 (by omega : @Ne Nat ru ow)).other W30_1 (by omega : @Ne Nat ru a1))⟩, ⟨_, ((((((Vs.other W15_1 (by omega : @Ne Nat sa ru)).other W18_1 (by omega : @Ne Nat sa ru)).other W21_1 (by omega : @Ne Nat sa ru)).other W25_1 (by omega : @Ne Nat sa on)).other W28_1 (by omega : @Ne Nat sa ow)).other W30_1 (by omega : @Ne Nat sa a1))⟩, ⟨_, ((A25.other W28_1 (by omega : @Ne Nat on ow)).other W30_1 (by omega : @Ne Nat on a1)), (sz_set _ _ _).trans Sn⟩, ⟨_, (A28.other W30_1 (by omega : @Ne Nat ow a1)), (sz_set _ _ _).trans Sw, own_row Hw (by omega) (by rw [Sw]; exact hp2)⟩⟩

theorem own_le0 {p z : Int32} (h : ¬ p < 0) (k : p < z) : (0 : Int32).toNatClampNeg + p.toNatClampNeg ≤ z.toNatClampNeg := by
  rw [Int32.lt_iff_toInt_lt] at h k
  have e0 : (0 : Int32).toInt = 0 := rfl
  have e1 : (0 : Int32).toNatClampNeg = 0 := by decide
  rw [e1]; simp only [Int32.toNatClampNeg]; omega
theorem own_le1 (p : Int32) : (0 : Int32).toNatClampNeg + p.toNatClampNeg ≤ p.toNatClampNeg := by
  have e1 : (0 : Int32).toNatClampNeg = 0 := by decide
  rw [e1]; omega

theorem d9_0 : decode jdk_65_method_123_code 0 = .ok (.iload_n 1, 1) := by decide +kernel
theorem d9_1 : decode jdk_65_method_123_code 1 = .ok (.aload_n 0, 1) := by decide +kernel
theorem d9_2 : decode jdk_65_method_123_code 2 = .ok (.arraylength, 1) := by decide +kernel
theorem d9_3 : decode jdk_65_method_123_code 3 = .ok (.if_icmp .ne 11, 3) := by decide +kernel
theorem d9_14 : decode jdk_65_method_123_code 14 = .ok (.iload_n 1, 1) := by decide +kernel
theorem d9_15 : decode jdk_65_method_123_code 15 = .ok (.newarray .int, 2) := by decide +kernel
theorem d9_17 : decode jdk_65_method_123_code 17 = .ok (.astore_n 2, 1) := by decide +kernel
theorem d9_18 : decode jdk_65_method_123_code 18 = .ok (.aload_n 0, 1) := by decide +kernel
theorem d9_19 : decode jdk_65_method_123_code 19 = .ok (.iconst 0, 1) := by decide +kernel
theorem d9_20 : decode jdk_65_method_123_code 20 = .ok (.aload_n 2, 1) := by decide +kernel
theorem d9_21 : decode jdk_65_method_123_code 21 = .ok (.iconst 0, 1) := by decide +kernel
theorem d9_22 : decode jdk_65_method_123_code 22 = .ok (.aload_n 0, 1) := by decide +kernel
theorem d9_23 : decode jdk_65_method_123_code 23 = .ok (.arraylength, 1) := by decide +kernel
theorem d9_24 : decode jdk_65_method_123_code 24 = .ok (.iload_n 1, 1) := by decide +kernel
theorem d9_25 : decode jdk_65_method_123_code 25 = .ok (.invokestatic 304, 3) := by decide +kernel
theorem d9_28 : decode jdk_65_method_123_code 28 = .ok (.invokestatic 150, 3) := by decide +kernel
theorem d9_31 : decode jdk_65_method_123_code 31 = .ok (.aload_n 2, 1) := by decide +kernel
theorem d9_32 : decode jdk_65_method_123_code 32 = .ok (.areturn, 1) := by decide +kernel
theorem pn_9 : plainName "java/util/Arrays" = true := by first | (simp [plainName, overriddenIn]; done) | decide +kernel
theorem pd_3 : parseMethodDescriptor "(II)I" = some ⟨[.int, .int], some .int⟩ := by decide +kernel
theorem pd_4 : parseMethodDescriptor "(Ljava/lang/Object;ILjava/lang/Object;II)V" = some ⟨[(.object "java/lang/Object"), .int, (.object "java/lang/Object"), .int, .int], none⟩ := by decide +kernel
theorem ef_9 (m : MethodId) (x0 : Addr) (x1 : Int32) : entryFrame m #[(.ref x0), (.int x1)] 3 = mkF m 0 #[.val (.ref x0), .val (.int x1), .unset] [] := by first | (simp [entryFrame, mkF, argsToLocals, Value.category]; done) | rfl
def Q9n (Z : State) (a1 : Addr) (p2 : Int32) (k : ClassId) (z : Int32) (vs : List Value) (h0 : Heap) (n0 : Nat) (v : Option Value) (h : Heap) (L : List Loc) : Prop := v = some (.ref h0.size) ∧ Fr n0 L ∧ Keep h0 h [] ∧ ∃ k', Arv Z h h0.size k' .int p2 (own_fst vs p2.toNatClampNeg) (.int 0)
set_option maxRecDepth 65536 in
set_option maxHeartbeats 40000000 in
theorem rm9n (l : Launch) (Z : State) (a0 : Array Value) (hw : ∀ d ∈ tables_1, d.before a0 Z = true) (ws : List Jvm.Cond) (a1 : Addr) (p2 : Int32) (k : ClassId) (z : Int32) (vs : List Value) (h0 : Heap) (n0 : Nat) (Z0 : n0 ≤ h0.size) (V : Arv Z h0 a1 k .int z vs (.int 0)) (hne : ¬ p2 = z) (hp0 : ¬ p2 < 0) (hpz : p2 < z) (hcap : p2.toNatClampNeg ≤ 6) :
    MetFree l (⟨"java/util/Arrays", "copyOf", "([II)[I"⟩ : MethodName) (head1 (Jvm.Cond.code (⟨"java/util/Arrays", "copyOf", "([II)[I"⟩ : MethodName) jdk_65_method_123_code 3 (some (.array .int)) :: ws) ({ frames := 1, cells := 1, slots := 6, locals := 40 } : Room)) (fun a U => a = #[(.ref a1), (.int p2)] ∧ Z.Warmed39 U.vm ∧ U.heap = h0) (fun _ _ _ _ _ => True) (fun _ U o U' => ∃ v L, o = .returned v ∧ Q9n Z a1 p2 k z vs h0 n0 v U'.heap L ∧ FrameEnd U o U' L ({ frames := 1, cells := 1, slots := 6, locals := 40 } : Room).cells ({ frames := 1, cells := 1, slots := 6, locals := 40 } : Room).slots) := by
  refine MetFree.of_bodySF (plainFor_of_name pn_9) hisR ?_
  intro p e s m args below meth c s₁ Bd hml0 hP hK
  obtain ⟨rfl, hZ, hh⟩ := hP
  have hx := Bd.exec
  have hby := Bd.bytes
  have hml : c.maxLocals = 3 := hml0
  have hown : s.vm.findClass "java/util/Arrays" = some m.cls := findClass_of_methodNamed Bd.named
  have hnm := (name_of_methodNamed Bd.named Bd.method).1
  have X0 : Stand p l e ({ frames := 1, cells := 1, slots := 6, locals := 40 } : Room) s m #[(.ref a1), (.int p2)] below meth c s₁ [] 0 0 := Stand.of_body Bd
  have e0 : s₁.heap = h0 := by rw [← hh, Bd.state]; rfl
  have N0 := Fr.nil n0
  have pre0 : ∀ t, Steps p.tables e below (s₁.setTop (mkF m 0 #[.val (.ref a1), .val (.int p2), .unset] [])) t → Steps p.tables e below (s₁.setTop (entryFrame m #[(.ref a1), (.int p2)] 3)) t := fun t k => castTop (ef_9 m a1 p2) k
  have VV := V
  obtain ⟨c0, A0, q0, S0, M0, H0, G0⟩ := V
  have hm : own_min z p2 = p2 := by simp [own_min, hpz]
  have hc3_1 : ¬ (p2 = z) := hne
  obtain ⟨T3_1, h3_1, k3_1, X3_1, e3_1, E3_1, A3_1, st3_1⟩ := newP X0 hx hZ (hw _ (List.mem_of_getElem? (i := 32) rfl)) e0 (g := (mkF m 15 #[.val (.ref a1), .val (.int p2), .unset] [(.int p2)])) rfl (hb hby d9_15) rfl hp0 (cap := 6) hcap (by decide) (by decide) (by decide)
  obtain ⟨b3_1, g3_1⟩ : ∃ z, z = h0.size := ⟨_, rfl⟩
  rw [← g3_1] at A3_1 st3_1
  have V_b3_1 := Arv.new A3_1 hp0
  have g_b3_1 : n0 ≤ b3_1 := Nat.le_trans Z0 (Nat.le_of_eq g3_1.symm)
  have sz_b3_1 : h0.size ≤ b3_1 := (Nat.le_trans (Keep.refl h0 []).1 (Nat.le_of_eq g3_1.symm))
  have K3_1 : Keep h0 h3_1 [] := (Keep.refl h0 []).ext E3_1
  obtain ⟨_, _, ⟨T4_1, L4_1, k4_1, n4_1⟩, -, X4_1, ⟨Lc4_1, hQ4_1, l4_1, y4_1, z4_1⟩, st4_1⟩ := Jvm.LawKit.callS X3_1 hx (y := (⟨"java/lang/Math", "min", "(II)I"⟩ : MethodName)) hown (mvT hZ (hw _ (List.mem_of_getElem? (i := 72) rfl))) (mvT hZ (hw _ (List.mem_of_getElem? (i := 73) rfl))) (mvT hZ (hw _ (List.mem_of_getElem? (i := 74) rfl))) (mvT hZ (hw _ (List.mem_of_getElem? (i := 75) rfl))) (by decide) (backOf (W := 4) (rm10 l Z a0 hw [] z p2 h3_1 n0 (Nat.le_trans Z0 E3_1.1)) hZ (hw _ (List.mem_of_getElem? (i := 75) rfl)) (hw _ (List.mem_of_getElem? (i := 74) rfl)) (by decide) (by decide)) (g := (mkF m 25 #[.val (.ref a1), .val (.int p2), .val (.ref b3_1)] [(.int p2), (.int z), (.int (0 : Int32)), (.ref b3_1), (.int (0 : Int32)), (.ref a1)])) rfl (by rw [hml]; rfl) (argsL := [(.int z), (.int p2)]) (rest := [(.int (0 : Int32)), (.ref b3_1), (.int (0 : Int32)), (.ref a1)]) (lenOf pd_3 rfl) rfl (by show 2 * 0 + _ ≤ _; exact Nat.le_of_eq rfl) (hb hby d9_25) (fun _ _ => ⟨rfl, e3_1, (by decide : 0 + 1 + 0 ≤ _), (by decide : 0 + 6 + 0 ≤ _)⟩)
  dsimp only [Pt.U, Pt.locs, Pt.cells, Pt.slots] at X4_1 l4_1 y4_1 z4_1 st4_1 hQ4_1
  subst l4_1 y4_1 z4_1
  obtain ⟨rfl, N4q_1, g4⟩ := hQ4_1
  have N4_1 := Fr.app N0 N4q_1
  obtain ⟨T5_1, h5_1, L5_1, X5_1, e5_1, N5_1, K5_1, V5_1, st5_1⟩ := cpA X4_1 hx hZ hown (hw _ (List.mem_of_getElem? (i := 76) rfl)) (hw _ (List.mem_of_getElem? (i := 79) rfl)) (hw _ (List.mem_of_getElem? (i := 77) rfl)) (hw _ (List.mem_of_getElem? (i := 78) rfl)) g4 (sp := (0 : Int32)) (dp := (0 : Int32)) (nn := own_min z p2) (VV.ext E3_1) (own_pad p2.toNatClampNeg V_b3_1 rfl) (Or.inl ⟨rfl, rfl⟩) (by decide) (by decide) (by rw [hm]; exact hp0) (by rw [hm]; exact own_le0 hp0 hpz) (by rw [hm]; exact own_le1 p2) rfl (by rw [hm, List.length_replicate]; exact own_le1 p2) N4_1 g_b3_1 (g := (mkF m 28 #[.val (.ref a1), .val (.int p2), .val (.ref b3_1)] [(.int (own_min z p2)), (.int (0 : Int32)), (.ref b3_1), (.int (0 : Int32)), (.ref a1)])) rfl (by rw [hml]; rfl) rfl (hb hby d9_28) (by decide) (W := 0) (by show 2 * 0 + _ ≤ _; exact Nat.le_of_eq rfl) (by decide)
  have st_1p : ∀ target, Steps p.tables e below (T5_1.setTop (mkF m 32 #[.val (.ref a1), .val (.int p2), .val (.ref b3_1)] [(.ref b3_1)])) target → Steps p.tables e below (s₁.setTop (mkF m 0 #[.val (.ref a1), .val (.int p2), .unset] [])) target := by
    intro target kt
    show Steps p.tables e below (s₁.setTop (mkF m 0 #[.val (.ref a1), .val (.int p2), .unset] [])) _
    refine XS.iloadN X0.here hx rfl (hb hby d9_0) rfl ?_
    show Steps p.tables e below (s₁.setTop (mkF m 1 #[.val (.ref a1), .val (.int p2), .unset] [(.int p2)])) _
    refine XS.aloadN X0.here hx rfl (hb hby d9_1) rfl rfl ?_
    show Steps p.tables e below (s₁.setTop (mkF m 2 #[.val (.ref a1), .val (.int p2), .unset] [(.ref a1), (.int p2)])) _
    refine X0.arraylength hx (by rw [e0]; exact A0.1) (State.isArrayOf_alike hZ.alike A0.2.1) (g := (mkF m 2 #[.val (.ref a1), .val (.int p2), .unset] [(.ref a1), (.int p2)])) rfl rfl (hb hby d9_2) _ ?_
    rw [len_of S0 M0]
    show Steps p.tables e below (s₁.setTop (mkF m 3 #[.val (.ref a1), .val (.int p2), .unset] [(.int z), (.int p2)])) _
    refine XS.icmpYes X0.here hx rfl (pc0 := 3) (pc' := 14) rfl (hb hby d9_3) rfl (feq hc3_1).2 (by decide) (by decide) ?_
    show Steps p.tables e below (s₁.setTop (mkF m 14 #[.val (.ref a1), .val (.int p2), .unset] [])) _
    refine XS.iloadN X0.here hx rfl (hb hby d9_14) rfl ?_
    show Steps p.tables e below (s₁.setTop (mkF m 15 #[.val (.ref a1), .val (.int p2), .unset] [(.int p2)])) _
    refine st3_1 _ ?_
    show Steps p.tables e below (T3_1.setTop (mkF m 17 #[.val (.ref a1), .val (.int p2), .unset] [(.ref b3_1)])) _
    refine XS.astoreN X3_1.here hx rfl (hb hby d9_17) rfl rfl (l' := #[.val (.ref a1), .val (.int p2), .val (.ref b3_1)]) rfl ?_
    show Steps p.tables e below (T3_1.setTop (mkF m 18 #[.val (.ref a1), .val (.int p2), .val (.ref b3_1)] [])) _
    refine XS.aloadN X3_1.here hx rfl (hb hby d9_18) rfl rfl ?_
    show Steps p.tables e below (T3_1.setTop (mkF m 19 #[.val (.ref a1), .val (.int p2), .val (.ref b3_1)] [(.ref a1)])) _
    refine XS.iconst X3_1.here hx rfl (hb hby d9_19) ?_
    show Steps p.tables e below (T3_1.setTop (mkF m 20 #[.val (.ref a1), .val (.int p2), .val (.ref b3_1)] [(.int (0 : Int32)), (.ref a1)])) _
    refine XS.aloadN X3_1.here hx rfl (hb hby d9_20) rfl rfl ?_
    show Steps p.tables e below (T3_1.setTop (mkF m 21 #[.val (.ref a1), .val (.int p2), .val (.ref b3_1)] [(.ref b3_1), (.int (0 : Int32)), (.ref a1)])) _
    refine XS.iconst X3_1.here hx rfl (hb hby d9_21) ?_
    show Steps p.tables e below (T3_1.setTop (mkF m 22 #[.val (.ref a1), .val (.int p2), .val (.ref b3_1)] [(.int (0 : Int32)), (.ref b3_1), (.int (0 : Int32)), (.ref a1)])) _
    refine XS.aloadN X3_1.here hx rfl (hb hby d9_22) rfl rfl ?_
    show Steps p.tables e below (T3_1.setTop (mkF m 23 #[.val (.ref a1), .val (.int p2), .val (.ref b3_1)] [(.ref a1), (.int (0 : Int32)), (.ref b3_1), (.int (0 : Int32)), (.ref a1)])) _
    refine X3_1.arraylength hx (by rw [e3_1]; exact (A0.ext E3_1).1) (State.isArrayOf_alike hZ.alike (A0.ext E3_1).2.1) (g := (mkF m 23 #[.val (.ref a1), .val (.int p2), .val (.ref b3_1)] [(.ref a1), (.int (0 : Int32)), (.ref b3_1), (.int (0 : Int32)), (.ref a1)])) rfl rfl (hb hby d9_23) _ ?_
    rw [len_of S0 M0]
    show Steps p.tables e below (T3_1.setTop (mkF m 24 #[.val (.ref a1), .val (.int p2), .val (.ref b3_1)] [(.int z), (.int (0 : Int32)), (.ref b3_1), (.int (0 : Int32)), (.ref a1)])) _
    refine XS.iloadN X3_1.here hx rfl (hb hby d9_24) rfl ?_
    show Steps p.tables e below (T3_1.setTop (mkF m 25 #[.val (.ref a1), .val (.int p2), .val (.ref b3_1)] [(.int p2), (.int z), (.int (0 : Int32)), (.ref b3_1), (.int (0 : Int32)), (.ref a1)])) _
    refine st4_1 _ ?_
    show Steps p.tables e below (T4_1.setTop (mkF m 28 #[.val (.ref a1), .val (.int p2), .val (.ref b3_1)] [(.int (own_min z p2)), (.int (0 : Int32)), (.ref b3_1), (.int (0 : Int32)), (.ref a1)])) _
    refine st5_1 _ ?_
    show Steps p.tables e below (T5_1.setTop (mkF m 31 #[.val (.ref a1), .val (.int p2), .val (.ref b3_1)] [])) _
    refine XS.aloadN X5_1.here hx rfl (hb hby d9_31) rfl rfl ?_
    exact kt
  have V6 : Arv Z h5_1 b3_1 k3_1 .int p2 (own_fst vs p2.toNatClampNeg) (.int 0) := by
    have q := V5_1
    rw [hm, show ((0 : Int32)).toNatClampNeg = 0 from by decide, Nat.zero_add, List.take_zero, List.nil_append, List.drop_eq_nil_of_le (by rw [List.length_replicate]; exact Nat.le_refl _), List.append_nil] at q
    exact q
  rw [g3_1] at V6
  obtain ⟨fs, hr, hrun, hended, hW, hsame⟩ := X5_1.leave (v := some (.ref b3_1)) (fun h => by rw [Bd.returns] at h; cases h)
  refine ⟨_, _, pre0 _ ?_, hrun, hended, _, _, rfl, ?_, ⟨_, rfl⟩, hW, hsame.mono (by decide) (by decide)⟩
  · show Steps p.tables e below (s₁.setTop (mkF m 0 #[.val (.ref a1), .val (.int p2), .unset] [])) _
    refine st_1p _ ?_
    jvm_step X5_1.here [X5_1.here.top, hx, (hb hby d9_32), X5_1.method', Bd.returns, Value.isRef, FieldType.isReference]
    first | (intro acts; rw [hr _ acts rfl rfl rfl]) | rw [hr _ _ rfl rfl rfl]
    exact Steps.refl _
  · show Q9n Z a1 p2 k z vs h0 n0 _ T5_1.heap _
    rw [e5_1]
    exact ⟨by rw [g3_1], N5_1, K3_1.trans K5_1 (allS (Or.inr sz_b3_1) all0), _, V6⟩
theorem d9_6 : decode jdk_65_method_123_code 6 = .ok (.aload_n 0, 1) := by decide +kernel
theorem d9_7 : decode jdk_65_method_123_code 7 = .ok (.invokevirtual 316, 3) := by decide +kernel
theorem d9_10 : decode jdk_65_method_123_code 10 = .ok (.checkcast 317, 3) := by decide +kernel
theorem pd_5 : parseMethodDescriptor "()Ljava/lang/Object;" = some ⟨[], some (.object "java/lang/Object")⟩ := by decide +kernel
theorem d9_13 : decode jdk_65_method_123_code 13 = .ok (.areturn, 1) := by decide +kernel

def Q9c (Z : State) (a1 : Addr) (p2 : Int32) (k : ClassId) (z : Int32) (vs : List Value) (h0 : Heap) (n0 : Nat) (v : Option Value) (h : Heap) (L : List Loc) : Prop := v = some (.ref h0.size) ∧ Fr n0 L ∧ Keep h0 h [] ∧ Arv Z h h0.size k .int z vs (.int 0)
set_option maxRecDepth 65536 in
set_option maxHeartbeats 40000000 in
theorem rm9c (l : Launch) (Z : State) (a0 : Array Value) (hw : ∀ d ∈ tables_1, d.before a0 Z = true) (ws : List Jvm.Cond) (a1 : Addr) (p2 : Int32) (k : ClassId) (z : Int32) (vs : List Value) (h0 : Heap) (n0 : Nat) (Z0 : n0 ≤ h0.size) (V : Arv Z h0 a1 k .int z vs (.int 0)) (E : Exa Z h0 a1 "[I") (hz : p2 = z) (hcap : z.toNatClampNeg ≤ 6) :
    MetFree l (⟨"java/util/Arrays", "copyOf", "([II)[I"⟩ : MethodName) (head1 (Jvm.Cond.code (⟨"java/util/Arrays", "copyOf", "([II)[I"⟩ : MethodName) jdk_65_method_123_code 3 (some (.array .int)) :: ws) ({ frames := 1, cells := 1, slots := 6, locals := 40 } : Room)) (fun a U => a = #[(.ref a1), (.int p2)] ∧ Z.Warmed39 U.vm ∧ U.heap = h0) (fun _ _ _ _ _ => True) (fun _ U o U' => ∃ v L, o = .returned v ∧ Q9c Z a1 p2 k z vs h0 n0 v U'.heap L ∧ FrameEnd U o U' L ({ frames := 1, cells := 1, slots := 6, locals := 40 } : Room).cells ({ frames := 1, cells := 1, slots := 6, locals := 40 } : Room).slots) := by
  refine MetFree.of_bodySF (plainFor_of_name pn_9) hisR ?_
  intro p e s m args below meth c s₁ Bd hml0 hP hK
  obtain ⟨rfl, hZ, hh⟩ := hP
  have hx := Bd.exec
  have hby := Bd.bytes
  have hml : c.maxLocals = 3 := hml0
  have hown : s.vm.findClass "java/util/Arrays" = some m.cls := findClass_of_methodNamed Bd.named
  have hnm := (name_of_methodNamed Bd.named Bd.method).1
  have X0 : Stand p l e ({ frames := 1, cells := 1, slots := 6, locals := 40 } : Room) s m #[(.ref a1), (.int p2)] below meth c s₁ [] 0 0 := Stand.of_body Bd
  have e0 : s₁.heap = h0 := by rw [← hh, Bd.state]; rfl
  have N0 := Fr.nil n0
  have pre0 : ∀ t, Steps p.tables e below (s₁.setTop (mkF m 0 #[.val (.ref a1), .val (.int p2), .unset] [])) t → Steps p.tables e below (s₁.setTop (entryFrame m #[(.ref a1), (.int p2)] 3)) t := fun t k => castTop (ef_9 m a1 p2) k
  obtain ⟨c0, A0, q0, S0, M0, H0, G0⟩ := V
  have FC : FitC Z c0 := fitC_of A0 fun i hi v hv => by rw [H0 i hi] at hv; cases hv; exact G0 i hi
  have hc3_1 : p2 = z := hz
  obtain ⟨T3_1, h3_1, X3_1, e3_1, E3_1, A3_1, EX3_1, st3_1⟩ := cloneA X0 hx hZ hown (hw _ (List.mem_of_getElem? (i := 101) rfl)) (hw _ (List.mem_of_getElem? (i := 102) rfl)) (hw _ (List.mem_of_getElem? (i := 106) rfl)) (hw _ (List.mem_of_getElem? (i := 104) rfl)) (hw _ (List.mem_of_getElem? (i := 105) rfl)) (hw _ (List.mem_of_getElem? (i := 107) rfl)) e0 A0 E FC (g := (mkF m 7 #[.val (.ref a1), .val (.int p2), .unset] [(.ref a1)])) rfl (by rw [hml]; rfl) rfl (hb hby d9_7) (by decide) (W := 0) (cap := 6) (by show 2 * 0 + _ ≤ _; exact Nat.le_of_eq rfl) (by decide) (by rw [S0]; exact hcap) (by decide) (by decide)
  obtain ⟨b3_1, g3_1⟩ : ∃ z, z = h0.size := ⟨_, rfl⟩
  rw [← g3_1] at A3_1 EX3_1 st3_1
  obtain ⟨T4_1, X4_1, e4_1, st4_1⟩ := castY X3_1 hx hZ hown (hw _ (List.mem_of_getElem? (i := 108) rfl)) e3_1 (Ins.self EX3_1) (g := (mkF m 10 #[.val (.ref a1), .val (.int p2), .unset] [(.ref b3_1)])) rfl rfl (hb hby d9_10)
  have st_1p : ∀ target, Steps p.tables e below (T4_1.setTop (mkF m 13 #[.val (.ref a1), .val (.int p2), .unset] [(.ref b3_1)])) target → Steps p.tables e below (s₁.setTop (mkF m 0 #[.val (.ref a1), .val (.int p2), .unset] [])) target := by
    intro target kt
    show Steps p.tables e below (s₁.setTop (mkF m 0 #[.val (.ref a1), .val (.int p2), .unset] [])) _
    refine XS.iloadN X0.here hx rfl (hb hby d9_0) rfl ?_
    show Steps p.tables e below (s₁.setTop (mkF m 1 #[.val (.ref a1), .val (.int p2), .unset] [(.int p2)])) _
    refine XS.aloadN X0.here hx rfl (hb hby d9_1) rfl rfl ?_
    show Steps p.tables e below (s₁.setTop (mkF m 2 #[.val (.ref a1), .val (.int p2), .unset] [(.ref a1), (.int p2)])) _
    refine X0.arraylength hx (by rw [e0]; exact A0.1) (State.isArrayOf_alike hZ.alike A0.2.1) (g := (mkF m 2 #[.val (.ref a1), .val (.int p2), .unset] [(.ref a1), (.int p2)])) rfl rfl (hb hby d9_2) _ ?_
    rw [len_of S0 M0]
    show Steps p.tables e below (s₁.setTop (mkF m 3 #[.val (.ref a1), .val (.int p2), .unset] [(.int z), (.int p2)])) _
    refine XS.icmpNo X0.here hx rfl (hb hby d9_3) rfl (teq hc3_1).2 ?_
    show Steps p.tables e below (s₁.setTop (mkF m 6 #[.val (.ref a1), .val (.int p2), .unset] [])) _
    refine XS.aloadN X0.here hx rfl (hb hby d9_6) rfl rfl ?_
    show Steps p.tables e below (s₁.setTop (mkF m 7 #[.val (.ref a1), .val (.int p2), .unset] [(.ref a1)])) _
    refine st3_1 _ ?_
    show Steps p.tables e below (T3_1.setTop (mkF m 10 #[.val (.ref a1), .val (.int p2), .unset] [(.ref b3_1)])) _
    refine st4_1 _ ?_
    exact kt
  obtain ⟨fs, hr, hrun, hended, hW, hsame⟩ := X4_1.leave (v := some (.ref b3_1)) (fun h => by rw [Bd.returns] at h; cases h)
  refine ⟨_, _, pre0 _ ?_, hrun, hended, _, _, rfl, ?_, ⟨_, rfl⟩, hW, hsame.mono (by decide) (by decide)⟩
  · show Steps p.tables e below (s₁.setTop (mkF m 0 #[.val (.ref a1), .val (.int p2), .unset] [])) _
    refine st_1p _ ?_
    jvm_step X4_1.here [X4_1.here.top, hx, (hb hby d9_13), X4_1.method', Bd.returns, Value.isRef, FieldType.isReference]
    first | (intro acts; rw [hr _ acts rfl rfl rfl]) | rw [hr _ _ rfl rfl rfl]
    exact Steps.refl _
  · show Q9c Z a1 p2 k z vs h0 n0 _ T4_1.heap _
    rw [e4_1]
    exact ⟨by rw [g3_1], N0, (Keep.refl h0 []).ext E3_1, by rw [← g3_1]; exact ⟨_, A3_1, q0, S0, M0, H0, G0⟩⟩
theorem d11_0 : decode prog_66_method_1_code 0 = .ok (.aload_n 0, 1) := by decide +kernel
theorem d11_1 : decode prog_66_method_1_code 1 = .ok (.invokespecial 1, 3) := by decide +kernel
theorem d11_4 : decode prog_66_method_1_code 4 = .ok (.aload_n 0, 1) := by decide +kernel
theorem d11_5 : decode prog_66_method_1_code 5 = .ok (.aload_n 1, 1) := by decide +kernel
theorem d11_6 : decode prog_66_method_1_code 6 = .ok (.putfield 7, 3) := by decide +kernel
theorem d11_9 : decode prog_66_method_1_code 9 = .ok (.aload_n 0, 1) := by decide +kernel
theorem d11_10 : decode prog_66_method_1_code 10 = .ok (.aload_n 2, 1) := by decide +kernel
theorem d11_11 : decode prog_66_method_1_code 11 = .ok (.putfield 13, 3) := by decide +kernel
theorem d11_14 : decode prog_66_method_1_code 14 = .ok (.aload_n 0, 1) := by decide +kernel
theorem d11_15 : decode prog_66_method_1_code 15 = .ok (.aload_n 3, 1) := by decide +kernel
theorem d11_16 : decode prog_66_method_1_code 16 = .ok (.putfield 17, 3) := by decide +kernel
theorem d11_19 : decode prog_66_method_1_code 19 = .ok (.return_, 1) := by decide +kernel
theorem pn_11 : plainName "com/example/tilecairn/tilecairn/zonal/CoveredBlocks" = true := by first | (simp [plainName, overriddenIn]; done) | decide +kernel
theorem ef_11 (m : MethodId) (x0 : Addr) (x1 : Addr) (x2 : Addr) (x3 : Addr) : entryFrame m #[(.ref x0), (.ref x1), (.ref x2), (.ref x3)] 4 = mkF m 0 #[.val (.ref x0), .val (.ref x1), .val (.ref x2), .val (.ref x3)] [] := by first | (simp [entryFrame, mkF, argsToLocals, Value.category]; done) | rfl
def Q11 (Z : State) (a1 : Addr) (a2 : Addr) (a3 : Addr) (a4 : Addr) (u_layout_a1 : Value) (u_starts_a1 : Value) (u_runs_a1 : Value) (h0 : Heap) (n0 : Nat) (v : Option Value) (h : Heap) (L : List Loc) : Prop := v = none ∧ Fr n0 L ∧ Keep h0 h [a1] ∧ Exa Z h a1 "com/example/tilecairn/tilecairn/zonal/CoveredBlocks" ∧ Fld Z h a1 "com/example/tilecairn/tilecairn/zonal/CoveredBlocks" "layout" "Lcom/example/tilecairn/tilecairn/tiff/Layout;" (.ref a2) ∧ Fld Z h a1 "com/example/tilecairn/tilecairn/zonal/CoveredBlocks" "starts" "[I" (.ref a3) ∧ Fld Z h a1 "com/example/tilecairn/tilecairn/zonal/CoveredBlocks" "runs" "[I" (.ref a4)
set_option maxRecDepth 65536 in
set_option maxHeartbeats 40000000 in
theorem rm11 (l : Launch) (Z : State) (a0 : Array Value) (hw : ∀ d ∈ tables_1, d.before a0 Z = true) (ws : List Jvm.Cond) (a1 : Addr) (a2 : Addr) (a3 : Addr) (a4 : Addr) (u_layout_a1 : Value) (u_starts_a1 : Value) (u_runs_a1 : Value) (h0 : Heap) (n0 : Nat) (Z0 : n0 ≤ h0.size) (E_a1 : Exa Z h0 a1 "com/example/tilecairn/tilecairn/zonal/CoveredBlocks") (F_layout_a1 : Fld Z h0 a1 "com/example/tilecairn/tilecairn/zonal/CoveredBlocks" "layout" "Lcom/example/tilecairn/tilecairn/tiff/Layout;" u_layout_a1) (g_a1 : n0 ≤ a1) (F_starts_a1 : Fld Z h0 a1 "com/example/tilecairn/tilecairn/zonal/CoveredBlocks" "starts" "[I" u_starts_a1) (F_runs_a1 : Fld Z h0 a1 "com/example/tilecairn/tilecairn/zonal/CoveredBlocks" "runs" "[I" u_runs_a1) :
    MetFree l (⟨"com/example/tilecairn/tilecairn/zonal/CoveredBlocks", "<init>", "(Lcom/example/tilecairn/tilecairn/tiff/Layout;[I[I)V"⟩ : MethodName) (head1 (Jvm.Cond.code (⟨"com/example/tilecairn/tilecairn/zonal/CoveredBlocks", "<init>", "(Lcom/example/tilecairn/tilecairn/tiff/Layout;[I[I)V"⟩ : MethodName) prog_66_method_1_code 4 none :: ws) ({ frames := 1, cells := 0, slots := 0, locals := 12 } : Room)) (fun a U => a = #[(.ref a1), (.ref a2), (.ref a3), (.ref a4)] ∧ Z.Warmed39 U.vm ∧ U.heap = h0) (fun _ _ _ _ _ => True) (fun _ U o U' => ∃ v L, o = .returned v ∧ Q11 Z a1 a2 a3 a4 u_layout_a1 u_starts_a1 u_runs_a1 h0 n0 v U'.heap L ∧ FrameEnd U o U' L ({ frames := 1, cells := 0, slots := 0, locals := 12 } : Room).cells ({ frames := 1, cells := 0, slots := 0, locals := 12 } : Room).slots) := by
  refine MetFree.of_bodySF (plainFor_of_name pn_11) hisR ?_
  intro p e s m args below meth c s₁ Bd hml0 hP hK
  obtain ⟨rfl, hZ, hh⟩ := hP
  have hx := Bd.exec
  have hby := Bd.bytes
  have hml : c.maxLocals = 4 := hml0
  have hown : s.vm.findClass "com/example/tilecairn/tilecairn/zonal/CoveredBlocks" = some m.cls := findClass_of_methodNamed Bd.named
  have hnm := (name_of_methodNamed Bd.named Bd.method).1
  have X0 : Stand p l e ({ frames := 1, cells := 0, slots := 0, locals := 12 } : Room) s m #[(.ref a1), (.ref a2), (.ref a3), (.ref a4)] below meth c s₁ [] 0 0 := Stand.of_body Bd
  have e0 : s₁.heap = h0 := by rw [← hh, Bd.state]; rfl
  have N0 := Fr.nil n0
  have pre0 : ∀ t, Steps p.tables e below (s₁.setTop (mkF m 0 #[.val (.ref a1), .val (.ref a2), .val (.ref a3), .val (.ref a4)] [])) t → Steps p.tables e below (s₁.setTop (entryFrame m #[(.ref a1), (.ref a2), (.ref a3), (.ref a4)] 4)) t := fun t k => castTop (ef_11 m a1 a2 a3 a4) k
  obtain ⟨T5, X5, e5, st5⟩ := initO X0 hx hZ hown (hw _ (List.mem_of_getElem? (i := 83) rfl)) (hw _ (List.mem_of_getElem? (i := 13) rfl)) (hw _ (List.mem_of_getElem? (i := 14) rfl)) e0 (g := (mkF m 1 #[.val (.ref a1), .val (.ref a2), .val (.ref a3), .val (.ref a4)] [(.ref a1)])) rfl (by rw [hml]; rfl) rfl (hb hby d11_1) (by decide) (W := 0) (by show 2 * 0 + _ ≤ _; exact Nat.le_of_eq rfl) (by decide)
  obtain ⟨T6, h6, X6, e6, W6, st6⟩ := putF X5 hx hZ hown (host := "") (Or.inl (hw _ (List.mem_of_getElem? (i := 84) rfl))) Via.refl e5 F_layout_a1 E_a1 (Or.inr ⟨(hw _ (List.mem_of_getElem? (i := 85) rfl)), rfl, hnm⟩) (hw _ (List.mem_of_getElem? (i := 67) rfl)) (ty := (.object "com/example/tilecairn/tilecairn/tiff/Layout")) (by decide) rfl rfl (g := (mkF m 6 #[.val (.ref a1), .val (.ref a2), .val (.ref a3), .val (.ref a4)] [(.ref a2), (.ref a1)])) rfl rfl (hb hby d11_6)
  have Fw6 := F_layout_a1.same W6
  have K6 : Keep h0 h6 [a1] := (Keep.refl h0 [a1]).wr W6 (Or.inl (List.mem_of_getElem? (i := 0) rfl))
  have N6 := Fr.snoc X6 N0 g_a1
  obtain ⟨T7, h7, X7, e7, W7, st7⟩ := putF X6 hx hZ hown (host := "") (Or.inl (hw _ (List.mem_of_getElem? (i := 86) rfl))) Via.refl e6 (F_starts_a1.other W6 (Or.inr (slot_ne (Or.inr (hw _ (List.mem_of_getElem? (i := 87) rfl))) (Or.inr (hw _ (List.mem_of_getElem? (i := 85) rfl))) (by decide) (t := (.array .int)) (t' := (.object "com/example/tilecairn/tilecairn/tiff/Layout")) (by decide) (by decide)))) (E_a1.wr W6) (Or.inr ⟨(hw _ (List.mem_of_getElem? (i := 87) rfl)), rfl, hnm⟩) (hw _ (List.mem_of_getElem? (i := 67) rfl)) (ty := (.array .int)) (by decide) rfl rfl (g := (mkF m 11 #[.val (.ref a1), .val (.ref a2), .val (.ref a3), .val (.ref a4)] [(.ref a3), (.ref a1)])) rfl rfl (hb hby d11_11)
  have Fw7 := (F_starts_a1.other W6 (Or.inr (slot_ne (Or.inr (hw _ (List.mem_of_getElem? (i := 87) rfl))) (Or.inr (hw _ (List.mem_of_getElem? (i := 85) rfl))) (by decide) (t := (.array .int)) (t' := (.object "com/example/tilecairn/tilecairn/tiff/Layout")) (by decide) (by decide)))).same W7
  have K7 : Keep h0 h7 [a1] := K6.wr W7 (Or.inl (List.mem_of_getElem? (i := 0) rfl))
  have N7 := Fr.snoc X7 N6 g_a1
  obtain ⟨T8, h8, X8, e8, W8, st8⟩ := putF X7 hx hZ hown (host := "") (Or.inl (hw _ (List.mem_of_getElem? (i := 88) rfl))) Via.refl e7 ((F_runs_a1.other W6 (Or.inr (slot_ne (Or.inr (hw _ (List.mem_of_getElem? (i := 89) rfl))) (Or.inr (hw _ (List.mem_of_getElem? (i := 85) rfl))) (by decide) (t := (.array .int)) (t' := (.object "com/example/tilecairn/tilecairn/tiff/Layout")) (by decide) (by decide)))).other W7 (Or.inr (slot_ne (Or.inr (hw _ (List.mem_of_getElem? (i := 89) rfl))) (Or.inr (hw _ (List.mem_of_getElem? (i := 87) rfl))) (by decide) (t := (.array .int)) (t' := (.array .int)) (by decide) (by decide)))) ((E_a1.wr W6).wr W7) (Or.inr ⟨(hw _ (List.mem_of_getElem? (i := 89) rfl)), rfl, hnm⟩) (hw _ (List.mem_of_getElem? (i := 67) rfl)) (ty := (.array .int)) (by decide) rfl rfl (g := (mkF m 16 #[.val (.ref a1), .val (.ref a2), .val (.ref a3), .val (.ref a4)] [(.ref a4), (.ref a1)])) rfl rfl (hb hby d11_16)
  have Fw8 := ((F_runs_a1.other W6 (Or.inr (slot_ne (Or.inr (hw _ (List.mem_of_getElem? (i := 89) rfl))) (Or.inr (hw _ (List.mem_of_getElem? (i := 85) rfl))) (by decide) (t := (.array .int)) (t' := (.object "com/example/tilecairn/tilecairn/tiff/Layout")) (by decide) (by decide)))).other W7 (Or.inr (slot_ne (Or.inr (hw _ (List.mem_of_getElem? (i := 89) rfl))) (Or.inr (hw _ (List.mem_of_getElem? (i := 87) rfl))) (by decide) (t := (.array .int)) (t' := (.array .int)) (by decide) (by decide)))).same W8
  have K8 : Keep h0 h8 [a1] := K7.wr W8 (Or.inl (List.mem_of_getElem? (i := 0) rfl))
  have N8 := Fr.snoc X8 N7 g_a1
  obtain ⟨fs, hr, hrun, hended, hW, hsame⟩ := X8.leave (v := none) (fun _ => rfl)
  refine ⟨_, _, pre0 _ ?_, hrun, hended, _, _, rfl, ?_, ⟨_, rfl⟩, hW, hsame.mono (by decide) (by decide)⟩
  · show Steps p.tables e below (s₁.setTop (mkF m 0 #[.val (.ref a1), .val (.ref a2), .val (.ref a3), .val (.ref a4)] [])) _
    refine XS.aloadN X0.here hx rfl (hb hby d11_0) rfl rfl ?_
    show Steps p.tables e below (s₁.setTop (mkF m 1 #[.val (.ref a1), .val (.ref a2), .val (.ref a3), .val (.ref a4)] [(.ref a1)])) _
    refine st5 _ ?_
    show Steps p.tables e below (T5.setTop (mkF m 4 #[.val (.ref a1), .val (.ref a2), .val (.ref a3), .val (.ref a4)] [])) _
    refine XS.aloadN X5.here hx rfl (hb hby d11_4) rfl rfl ?_
    show Steps p.tables e below (T5.setTop (mkF m 5 #[.val (.ref a1), .val (.ref a2), .val (.ref a3), .val (.ref a4)] [(.ref a1)])) _
    refine XS.aloadN X5.here hx rfl (hb hby d11_5) rfl rfl ?_
    show Steps p.tables e below (T5.setTop (mkF m 6 #[.val (.ref a1), .val (.ref a2), .val (.ref a3), .val (.ref a4)] [(.ref a2), (.ref a1)])) _
    refine st6 _ ?_
    show Steps p.tables e below (T6.setTop (mkF m 9 #[.val (.ref a1), .val (.ref a2), .val (.ref a3), .val (.ref a4)] [])) _
    refine XS.aloadN X6.here hx rfl (hb hby d11_9) rfl rfl ?_
    show Steps p.tables e below (T6.setTop (mkF m 10 #[.val (.ref a1), .val (.ref a2), .val (.ref a3), .val (.ref a4)] [(.ref a1)])) _
    refine XS.aloadN X6.here hx rfl (hb hby d11_10) rfl rfl ?_
    show Steps p.tables e below (T6.setTop (mkF m 11 #[.val (.ref a1), .val (.ref a2), .val (.ref a3), .val (.ref a4)] [(.ref a3), (.ref a1)])) _
    refine st7 _ ?_
    show Steps p.tables e below (T7.setTop (mkF m 14 #[.val (.ref a1), .val (.ref a2), .val (.ref a3), .val (.ref a4)] [])) _
    refine XS.aloadN X7.here hx rfl (hb hby d11_14) rfl rfl ?_
    show Steps p.tables e below (T7.setTop (mkF m 15 #[.val (.ref a1), .val (.ref a2), .val (.ref a3), .val (.ref a4)] [(.ref a1)])) _
    refine XS.aloadN X7.here hx rfl (hb hby d11_15) rfl rfl ?_
    show Steps p.tables e below (T7.setTop (mkF m 16 #[.val (.ref a1), .val (.ref a2), .val (.ref a3), .val (.ref a4)] [(.ref a4), (.ref a1)])) _
    refine st8 _ ?_
    show Steps p.tables e below (T8.setTop (mkF m 19 #[.val (.ref a1), .val (.ref a2), .val (.ref a3), .val (.ref a4)] [])) _
    exact X8.returnOut hx Bd.returns (hb hby d11_19) hr
  · show Q11 Z a1 a2 a3 a4 u_layout_a1 u_starts_a1 u_runs_a1 h0 n0 _ T8.heap _
    rw [e8]
    exact ⟨rfl, N8, K8, (((E_a1.wr W6).wr W7).wr W8), ((Fw6.other W7 (Or.inr (slot_ne (Or.inr (hw _ (List.mem_of_getElem? (i := 85) rfl))) (Or.inr (hw _ (List.mem_of_getElem? (i := 87) rfl))) (by decide) (t := (.object "com/example/tilecairn/tilecairn/tiff/Layout")) (t' := (.array .int)) (by decide) (by decide)))).other W8 (Or.inr (slot_ne (Or.inr (hw _ (List.mem_of_getElem? (i := 85) rfl))) (Or.inr (hw _ (List.mem_of_getElem? (i := 89) rfl))) (by decide) (t := (.object "com/example/tilecairn/tilecairn/tiff/Layout")) (t' := (.array .int)) (by decide) (by decide)))), (Fw7.other W8 (Or.inr (slot_ne (Or.inr (hw _ (List.mem_of_getElem? (i := 87) rfl))) (Or.inr (hw _ (List.mem_of_getElem? (i := 89) rfl))) (by decide) (t := (.array .int)) (t' := (.array .int)) (by decide) (by decide)))), Fw8⟩

def own_C (Z : State) (h : Heap) (la cb sa rn : Addr) (z : Int32) (rs ss : List Value) : Prop :=
  Exa Z h cb "com/example/tilecairn/tilecairn/zonal/CoveredBlocks" ∧ Exa Z h la "com/example/tilecairn/tilecairn/tiff/Layout" ∧ Fld Z h la "com/example/tilecairn/tilecairn/tiff/Layout" "blocksAcross" "I" (.int 4) ∧ Fld Z h cb "com/example/tilecairn/tilecairn/zonal/CoveredBlocks" "layout" "Lcom/example/tilecairn/tilecairn/tiff/Layout;" (.ref la) ∧ Fld Z h cb "com/example/tilecairn/tilecairn/zonal/CoveredBlocks" "starts" "[I" (.ref sa) ∧ Fld Z h cb "com/example/tilecairn/tilecairn/zonal/CoveredBlocks" "runs" "[I" (.ref rn) ∧ own_V Z h sa (4 : Int32) ss ∧ own_V Z h rn z rs

theorem d8_0 : decode prog_67_method_4_code 0 = .ok (.new 1, 3) := by decide +kernel
theorem d8_3 : decode prog_67_method_4_code 3 = .ok (.dup, 1) := by decide +kernel
theorem d8_4 : decode prog_67_method_4_code 4 = .ok (.aload_n 0, 1) := by decide +kernel
theorem d8_5 : decode prog_67_method_4_code 5 = .ok (.getfield 15, 3) := by decide +kernel
theorem d8_8 : decode prog_67_method_4_code 8 = .ok (.aload_n 0, 1) := by decide +kernel
theorem d8_9 : decode prog_67_method_4_code 9 = .ok (.getfield 25, 3) := by decide +kernel
theorem d8_12 : decode prog_67_method_4_code 12 = .ok (.aload_n 0, 1) := by decide +kernel
theorem d8_13 : decode prog_67_method_4_code 13 = .ok (.getfield 9, 3) := by decide +kernel
theorem d8_16 : decode prog_67_method_4_code 16 = .ok (.iconst 3, 1) := by decide +kernel
theorem d8_17 : decode prog_67_method_4_code 17 = .ok (.aload_n 0, 1) := by decide +kernel
theorem d8_18 : decode prog_67_method_4_code 18 = .ok (.getfield 44, 3) := by decide +kernel
theorem d8_21 : decode prog_67_method_4_code 21 = .ok (.imul, 1) := by decide +kernel
theorem d8_22 : decode prog_67_method_4_code 22 = .ok (.invokestatic 47, 3) := by decide +kernel
theorem d8_25 : decode prog_67_method_4_code 25 = .ok (.invokespecial 51, 3) := by decide +kernel
theorem d8_28 : decode prog_67_method_4_code 28 = .ok (.areturn, 1) := by decide +kernel
theorem pn_8 : plainName "com/example/tilecairn/tilecairn/zonal/CoveredBlocks$Builder" = true := by first | (simp [plainName, overriddenIn]; done) | decide +kernel
theorem pd_6 : parseMethodDescriptor "([II)[I" = some ⟨[(.array .int), .int], some (.array .int)⟩ := by decide +kernel
theorem pd_7 : parseMethodDescriptor "(Lcom/example/tilecairn/tilecairn/tiff/Layout;[I[I)V" = some ⟨[(.object "com/example/tilecairn/tilecairn/tiff/Layout"), (.array .int), (.array .int)], none⟩ := by decide +kernel
theorem ef_8 (m : MethodId) (x0 : Addr) : entryFrame m #[(.ref x0)] 1 = mkF m 0 #[.val (.ref x0)] [] := by first | (simp [entryFrame, mkF, argsToLocals, Value.category]; done) | rfl
def Q8 (Z : State) (a1 : Addr) (la ru sa on ow : Addr) (rc br : Int32) (rs ss : List Value) (b : Int) (h0 : Heap) (n0 : Nat) (v : Option Value) (h : Heap) (L : List Loc) : Prop := v = some (.ref h0.size) ∧ Fr n0 L ∧ n0 ≤ h.size ∧ ∃ rn, own_C Z h la h0.size sa rn ((3 : Int32) * rc) (own_fst rs ((3 : Int32) * rc).toNatClampNeg) ss
set_option maxRecDepth 65536 in
set_option maxHeartbeats 40000000 in
theorem rm8 (l : Launch) (Z : State) (a0 : Array Value) (hw : ∀ d ∈ tables_1, d.before a0 Z = true) (ws : List Jvm.Cond) (a1 : Addr) (la ru sa on ow : Addr) (rc br : Int32) (rs ss : List Value) (b : Int) (h0 : Heap) (n0 : Nat) (Z0 : n0 ≤ h0.size) (S : own_B Z h0 la a1 ru sa on ow rc br rs ss b) (hrc : rc = 0 ∨ rc = 1 ∨ rc = 2) :
    MetFree l (⟨"com/example/tilecairn/tilecairn/zonal/CoveredBlocks$Builder", "build", "()Lcom/example/tilecairn/tilecairn/zonal/CoveredBlocks;"⟩ : MethodName) (head1 (Jvm.Cond.code (⟨"com/example/tilecairn/tilecairn/zonal/CoveredBlocks$Builder", "build", "()Lcom/example/tilecairn/tilecairn/zonal/CoveredBlocks;"⟩ : MethodName) prog_67_method_4_code 1 (some (.object "com/example/tilecairn/tilecairn/zonal/CoveredBlocks")) :: ws) ({ frames := 2, cells := 2, slots := 9, locals := 58 } : Room)) (fun a U => a = #[(.ref a1)] ∧ Z.Warmed39 U.vm ∧ U.heap = h0) (fun _ _ _ _ _ => True) (fun _ U o U' => ∃ v L, o = .returned v ∧ Q8 Z a1 la ru sa on ow rc br rs ss b h0 n0 v U'.heap L ∧ FrameEnd U o U' L ({ frames := 2, cells := 2, slots := 9, locals := 58 } : Room).cells ({ frames := 2, cells := 2, slots := 9, locals := 58 } : Room).slots) := by
  refine MetFree.of_bodySF (plainFor_of_name pn_8) hisR ?_
  intro p e s m args below meth c s₁ Bd hml0 hP hK
  obtain ⟨rfl, hZ, hh⟩ := hP
  have hx := Bd.exec
  have hby := Bd.bytes
  have hml : c.maxLocals = 1 := hml0
  have hown : s.vm.findClass "com/example/tilecairn/tilecairn/zonal/CoveredBlocks$Builder" = some m.cls := findClass_of_methodNamed Bd.named
  have hnm := (name_of_methodNamed Bd.named Bd.method).1
  have X0 : Stand p l e ({ frames := 2, cells := 2, slots := 9, locals := 58 } : Room) s m #[(.ref a1)] below meth c s₁ [] 0 0 := Stand.of_body Bd
  have e0 : s₁.heap = h0 := by rw [← hh, Bd.state]; rfl
  have N0 := Fr.nil n0
  have pre0 : ∀ t, Steps p.tables e below (s₁.setTop (mkF m 0 #[.val (.ref a1)] [])) t → Steps p.tables e below (s₁.setTop (entryFrame m #[(.ref a1)] 1)) t := fun t k => castTop (ef_8 m a1) k
  obtain ⟨Ex, El, Fba, Fla, Fru, Fst, Fon, Fow, Frc, Fbr, ⟨kr, Vr⟩, ⟨ks, Vs⟩, ⟨cn, An, Sn⟩, ⟨cw, Aw, Sw, Hw⟩⟩ := S
  have i0 : ¬ ((3 : Int32) * rc) = (192 : Int32) ∧ ¬ ((3 : Int32) * rc) < 0 ∧ ((3 : Int32) * rc) < (192 : Int32) ∧ ((3 : Int32) * rc).toNatClampNeg ≤ 6 := by rcases hrc with rfl | rfl | rfl <;> decide
  obtain ⟨T2_1, h2_1, X2_1, e2_1, E2_1, A2_1, D2_1, -, st2_1⟩ := newO X0 hx hZ hown (hw _ (List.mem_of_getElem? (i := 66) rfl)) (hw _ (List.mem_of_getElem? (i := 67) rfl)) (hw _ (List.mem_of_getElem? (i := 68) rfl)) e0 (g := (mkF m 0 #[.val (.ref a1)] [])) rfl (hb hby d8_0) (by decide) (by decide)
  obtain ⟨b2_1, g2_1⟩ : ∃ z, z = h0.size := ⟨_, rfl⟩
  rw [← g2_1] at A2_1 D2_1 st2_1
  have F_layout_b2_1 : Fld Z h2_1 b2_1 "com/example/tilecairn/tilecairn/zonal/CoveredBlocks" "layout" "Lcom/example/tilecairn/tilecairn/tiff/Layout;" .null := D2_1 (Or.inr (hw _ (List.mem_of_getElem? (i := 85) rfl))) (ty := (.object "com/example/tilecairn/tilecairn/tiff/Layout")) (by decide)
  have F_starts_b2_1 : Fld Z h2_1 b2_1 "com/example/tilecairn/tilecairn/zonal/CoveredBlocks" "starts" "[I" .null := D2_1 (Or.inr (hw _ (List.mem_of_getElem? (i := 87) rfl))) (ty := (.array .int)) (by decide)
  have F_runs_b2_1 : Fld Z h2_1 b2_1 "com/example/tilecairn/tilecairn/zonal/CoveredBlocks" "runs" "[I" .null := D2_1 (Or.inr (hw _ (List.mem_of_getElem? (i := 89) rfl))) (ty := (.array .int)) (by decide)
  have E_b2_1 := A2_1
  have g_b2_1 : n0 ≤ b2_1 := Nat.le_trans Z0 (Nat.le_of_eq g2_1.symm)
  have sz_b2_1 : h0.size ≤ b2_1 := (Nat.le_trans (Keep.refl h0 []).1 (Nat.le_of_eq g2_1.symm))
  have K2_1 : Keep h0 h2_1 [] := (Keep.refl h0 []).ext E2_1
  obtain ⟨T4_1, X4_1, e4_1, st4_1⟩ := getF X2_1 hx hZ hown (host := "") (Or.inl (hw _ (List.mem_of_getElem? (i := 35) rfl))) Via.refl e2_1 (Fla.ext E2_1) (g := (mkF m 5 #[.val (.ref a1)] [(.ref a1), (.ref b2_1), (.ref b2_1)])) rfl rfl (hb hby d8_5)
  obtain ⟨T6_1, X6_1, e6_1, st6_1⟩ := getF X4_1 hx hZ hown (host := "") (Or.inl (hw _ (List.mem_of_getElem? (i := 42) rfl))) Via.refl e4_1 (Fst.ext E2_1) (g := (mkF m 9 #[.val (.ref a1)] [(.ref a1), (.ref la), (.ref b2_1), (.ref b2_1)])) rfl rfl (hb hby d8_9)
  obtain ⟨T8_1, X8_1, e8_1, st8_1⟩ := getF X6_1 hx hZ hown (host := "") (Or.inl (hw _ (List.mem_of_getElem? (i := 33) rfl))) Via.refl e6_1 (Fru.ext E2_1) (g := (mkF m 13 #[.val (.ref a1)] [(.ref a1), (.ref sa), (.ref la), (.ref b2_1), (.ref b2_1)])) rfl rfl (hb hby d8_13)
  obtain ⟨T10_1, X10_1, e10_1, st10_1⟩ := getF X8_1 hx hZ hown (host := "") (Or.inl (hw _ (List.mem_of_getElem? (i := 59) rfl))) Via.refl e8_1 (Frc.ext E2_1) (g := (mkF m 18 #[.val (.ref a1)] [(.ref a1), (.int (3 : Int32)), (.ref ru), (.ref sa), (.ref la), (.ref b2_1), (.ref b2_1)])) rfl rfl (hb hby d8_18)
  obtain ⟨_, _, ⟨T11_1, L11_1, k11_1, n11_1⟩, -, X11_1, ⟨Lc11_1, hQ11_1, l11_1, y11_1, z11_1⟩, st11_1⟩ := Jvm.LawKit.callS X10_1 hx (y := (⟨"java/util/Arrays", "copyOf", "([II)[I"⟩ : MethodName)) hown (mvT hZ (hw _ (List.mem_of_getElem? (i := 69) rfl))) (mvT hZ (hw _ (List.mem_of_getElem? (i := 70) rfl))) (mvT hZ (hw _ (List.mem_of_getElem? (i := 50) rfl))) (mvT hZ (hw _ (List.mem_of_getElem? (i := 71) rfl))) (by decide) (backOf (W := 4) (rm9n l Z a0 hw [] ru ((3 : Int32) * rc) kr (192 : Int32) rs h2_1 n0 (Nat.le_trans Z0 E2_1.1) (Vr.ext E2_1) i0.1 i0.2.1 i0.2.2.1 i0.2.2.2) hZ (hw _ (List.mem_of_getElem? (i := 71) rfl)) (hw _ (List.mem_of_getElem? (i := 50) rfl)) (by decide) (by decide)) (g := (mkF m 22 #[.val (.ref a1)] [(.int ((3 : Int32) * rc)), (.ref ru), (.ref sa), (.ref la), (.ref b2_1), (.ref b2_1)])) rfl (by rw [hml]; rfl) (argsL := [(.ref ru), (.int ((3 : Int32) * rc))]) (rest := [(.ref sa), (.ref la), (.ref b2_1), (.ref b2_1)]) (lenOf pd_6 rfl) rfl (by show 2 * 0 + _ ≤ _; exact Nat.le_of_eq rfl) (hb hby d8_22) (fun _ _ => ⟨rfl, e10_1, (by decide : 0 + 1 + 1 ≤ _), (by decide : 0 + 3 + 6 ≤ _)⟩)
  dsimp only [Pt.U, Pt.locs, Pt.cells, Pt.slots] at X11_1 l11_1 y11_1 z11_1 st11_1 hQ11_1
  subst l11_1 y11_1 z11_1
  obtain ⟨rfl, N11q_1, K11_1, kn, V11_1⟩ := hQ11_1
  have N11_1 := Fr.app N0 N11q_1
  obtain ⟨_, _, ⟨T12_1, L12_1, k12_1, n12_1⟩, -, X12_1, ⟨Lc12_1, hQ12_1, l12_1, y12_1, z12_1⟩, st12_1⟩ := X11_1.specialBackNest hx (y := (⟨"com/example/tilecairn/tilecairn/zonal/CoveredBlocks", "<init>", "(Lcom/example/tilecairn/tilecairn/tiff/Layout;[I[I)V"⟩ : MethodName)) rfl hown (Cond.methodLinkNest_wide hZ (hw _ (List.mem_of_getElem? (i := 80) rfl)) :) (mvT hZ (hw _ (List.mem_of_getElem? (i := 81) rfl))) (mvT hZ (hw _ (List.mem_of_getElem? (i := 82) rfl))) (by decide) (backOf (W := 1) (rm11 l Z a0 hw [] b2_1 la sa h2_1.size .null .null .null T11_1.heap n0 (Nat.le_trans (Nat.le_trans Z0 E2_1.1) K11_1.1) (E_b2_1.keep K11_1) (F_layout_b2_1.keep K11_1 nin0) g_b2_1 (F_starts_b2_1.keep K11_1 nin0) (F_runs_b2_1.keep K11_1 nin0)) hZ (hw _ (List.mem_of_getElem? (i := 82) rfl)) (hw _ (List.mem_of_getElem? (i := 68) rfl)) (by decide) (by decide)) (g := (mkF m 25 #[.val (.ref a1)] [(.ref h2_1.size), (.ref sa), (.ref la), (.ref b2_1), (.ref b2_1)])) rfl (by rw [hml]; rfl) (Steps.refl _) (a := b2_1) (argsL := [(.ref la), (.ref sa), (.ref h2_1.size)]) (rest := [(.ref b2_1)]) (lenOf pd_7 rfl) rfl (by show 2 * 0 + _ ≤ _; exact Nat.le_of_eq rfl) (hb hby d8_25) (fun _ _ => ⟨rfl, rfl, (by decide : 0 + 2 + 0 ≤ _), (by decide : 0 + 9 + 0 ≤ _)⟩)
  dsimp only [Pt.U, Pt.locs, Pt.cells, Pt.slots] at X12_1 l12_1 y12_1 z12_1 st12_1 hQ12_1
  subst l12_1 y12_1 z12_1
  obtain ⟨rfl, N12q_1, K12_1, Ec, Fcl, Fcs, Fcr⟩ := hQ12_1
  have N12_1 := Fr.app N11_1 N12q_1
  have st_1p : ∀ target, Steps p.tables e below (T12_1.setTop (mkF m 28 #[.val (.ref a1)] [(.ref b2_1)])) target → Steps p.tables e below (s₁.setTop (mkF m 0 #[.val (.ref a1)] [])) target := by
    intro target kt
    show Steps p.tables e below (s₁.setTop (mkF m 0 #[.val (.ref a1)] [])) _
    refine st2_1 _ ?_
    show Steps p.tables e below (T2_1.setTop (mkF m 3 #[.val (.ref a1)] [(.ref b2_1)])) _
    refine XS.dup X2_1.here hx rfl (hb hby d8_3) rfl rfl ?_
    show Steps p.tables e below (T2_1.setTop (mkF m 4 #[.val (.ref a1)] [(.ref b2_1), (.ref b2_1)])) _
    refine XS.aloadN X2_1.here hx rfl (hb hby d8_4) rfl rfl ?_
    show Steps p.tables e below (T2_1.setTop (mkF m 5 #[.val (.ref a1)] [(.ref a1), (.ref b2_1), (.ref b2_1)])) _
    refine st4_1 _ ?_
    show Steps p.tables e below (T4_1.setTop (mkF m 8 #[.val (.ref a1)] [(.ref la), (.ref b2_1), (.ref b2_1)])) _
    refine XS.aloadN X4_1.here hx rfl (hb hby d8_8) rfl rfl ?_
    show Steps p.tables e below (T4_1.setTop (mkF m 9 #[.val (.ref a1)] [(.ref a1), (.ref la), (.ref b2_1), (.ref b2_1)])) _
    refine st6_1 _ ?_
    show Steps p.tables e below (T6_1.setTop (mkF m 12 #[.val (.ref a1)] [(.ref sa), (.ref la), (.ref b2_1), (.ref b2_1)])) _
    refine XS.aloadN X6_1.here hx rfl (hb hby d8_12) rfl rfl ?_
    show Steps p.tables e below (T6_1.setTop (mkF m 13 #[.val (.ref a1)] [(.ref a1), (.ref sa), (.ref la), (.ref b2_1), (.ref b2_1)])) _
    refine st8_1 _ ?_
    show Steps p.tables e below (T8_1.setTop (mkF m 16 #[.val (.ref a1)] [(.ref ru), (.ref sa), (.ref la), (.ref b2_1), (.ref b2_1)])) _
    refine XS.iconst X8_1.here hx rfl (hb hby d8_16) ?_
    show Steps p.tables e below (T8_1.setTop (mkF m 17 #[.val (.ref a1)] [(.int (3 : Int32)), (.ref ru), (.ref sa), (.ref la), (.ref b2_1), (.ref b2_1)])) _
    refine XS.aloadN X8_1.here hx rfl (hb hby d8_17) rfl rfl ?_
    show Steps p.tables e below (T8_1.setTop (mkF m 18 #[.val (.ref a1)] [(.ref a1), (.int (3 : Int32)), (.ref ru), (.ref sa), (.ref la), (.ref b2_1), (.ref b2_1)])) _
    refine st10_1 _ ?_
    show Steps p.tables e below (T10_1.setTop (mkF m 21 #[.val (.ref a1)] [(.int rc), (.int (3 : Int32)), (.ref ru), (.ref sa), (.ref la), (.ref b2_1), (.ref b2_1)])) _
    refine XS.imul X10_1.here hx rfl (hb hby d8_21) rfl ?_
    show Steps p.tables e below (T10_1.setTop (mkF m 22 #[.val (.ref a1)] [(.int ((3 : Int32) * rc)), (.ref ru), (.ref sa), (.ref la), (.ref b2_1), (.ref b2_1)])) _
    refine st11_1 _ ?_
    show Steps p.tables e below (T11_1.setTop (mkF m 25 #[.val (.ref a1)] [(.ref h2_1.size), (.ref sa), (.ref la), (.ref b2_1), (.ref b2_1)])) _
    refine st12_1.trans ?_
    exact kt
  have L1 : @LT.lt Nat _ la b2_1 := by rw [g2_1]; exact El.lt
  have L2 : @LT.lt Nat _ sa b2_1 := by rw [g2_1]; exact Vs.lt
  have L3 : @LT.lt Nat _ b2_1 h2_1.size := E_b2_1.lt
  rw [g2_1] at Ec Fcl Fcs Fcr
  obtain ⟨fs, hr, hrun, hended, hW, hsame⟩ := X12_1.leave (v := some (.ref b2_1)) (fun h => by rw [Bd.returns] at h; cases h)
  refine ⟨_, _, pre0 _ ?_, hrun, hended, _, _, rfl, ?_, ⟨_, rfl⟩, hW, hsame.mono (by decide) (by decide)⟩
  · show Steps p.tables e below (s₁.setTop (mkF m 0 #[.val (.ref a1)] [])) _
    refine st_1p _ ?_
    jvm_step X12_1.here [X12_1.here.top, hx, (hb hby d8_28), X12_1.method', Bd.returns, Value.isRef, FieldType.isReference]
    first | (intro acts; rw [hr _ acts rfl rfl rfl]) | rw [hr _ _ rfl rfl rfl]
    exact Steps.refl _
  · show Q8 Z a1 la ru sa on ow rc br rs ss b h0 n0 _ T12_1.heap _
    exact ⟨by rw [g2_1], N12_1, Nat.le_trans (Nat.le_trans (Nat.le_trans Z0 E2_1.1) K11_1.1) K12_1.1, h2_1.size, Ec, (((El.ext E2_1).keep K11_1).keep K12_1), (((Fba.ext E2_1).keep K11_1 nin0).keep K12_1 (ninS (by omega : @Ne Nat la b2_1) nin0)), Fcl, Fcs, Fcr, ⟨_, (((Vs.ext E2_1).keep K11_1 nin0).keep K12_1 (ninS (by omega : @Ne Nat sa b2_1) nin0))⟩, ⟨_, (V11_1.keep K12_1 (ninS (by omega : @Ne Nat h2_1.size b2_1) nin0))⟩⟩

/-- what stands in the row's part of the runs, and what is handed back for the column -/
def own_R (rs : List Value) (z col sr er zz : Int32) (vv : List Value) : Prop :=
  (er = sr ∧ zz = 0 ∧ vv = []) ∨ ∃ c d pp : Int32, er - sr = 1 ∧ sr < er ∧ ¬ (sr + (1 : Int32)) < er ∧ (¬ (3 : Int32) * sr < 0 ∧ (3 : Int32) * sr < z) ∧ (¬ (3 : Int32) * sr + (1 : Int32) < 0 ∧ (3 : Int32) * sr + (1 : Int32) < z) ∧ (¬ (3 : Int32) * sr + (2 : Int32) < 0 ∧ (3 : Int32) * sr + (2 : Int32) < z) ∧
    rs.getD ((3 : Int32) * sr).toNatClampNeg (.int 0) = .int c ∧ rs.getD ((3 : Int32) * sr + (1 : Int32)).toNatClampNeg (.int 0) = .int d ∧ rs.getD ((3 : Int32) * sr + (2 : Int32)).toNatClampNeg (.int 0) = .int pp ∧
    ((¬ col < c ∧ col < d ∧ zz = 1 ∧ vv = [.int pp]) ∨ ((col < c ∨ ¬ col < d) ∧ zz = 0 ∧ vv = []))
theorem own_irr (n : Int32) : ¬ n < n := by rw [Int32.lt_iff_toInt_lt]; omega
theorem d12_63 : decode prog_66_method_3_code 63 = .ok (.aload_n 0, 1) := by decide +kernel
theorem d12_64 : decode prog_66_method_3_code 64 = .ok (.getfield 17, 3) := by decide +kernel
theorem d12_67 : decode prog_66_method_3_code 67 = .ok (.iconst 3, 1) := by decide +kernel
theorem d12_68 : decode prog_66_method_3_code 68 = .ok (.iload 6, 2) := by decide +kernel
theorem d12_70 : decode prog_66_method_3_code 70 = .ok (.imul, 1) := by decide +kernel
theorem d12_71 : decode prog_66_method_3_code 71 = .ok (.iaload, 1) := by decide +kernel
theorem d12_72 : decode prog_66_method_3_code 72 = .ok (.iload_n 3, 1) := by decide +kernel
theorem d12_73 : decode prog_66_method_3_code 73 = .ok (.if_icmp .gt 43, 3) := by decide +kernel
theorem d12_76 : decode prog_66_method_3_code 76 = .ok (.iload_n 3, 1) := by decide +kernel
theorem d12_77 : decode prog_66_method_3_code 77 = .ok (.aload_n 0, 1) := by decide +kernel
theorem d12_78 : decode prog_66_method_3_code 78 = .ok (.getfield 17, 3) := by decide +kernel
theorem d12_81 : decode prog_66_method_3_code 81 = .ok (.iconst 3, 1) := by decide +kernel
theorem d12_82 : decode prog_66_method_3_code 82 = .ok (.iload 6, 2) := by decide +kernel
theorem d12_84 : decode prog_66_method_3_code 84 = .ok (.imul, 1) := by decide +kernel
theorem d12_85 : decode prog_66_method_3_code 85 = .ok (.iconst 1, 1) := by decide +kernel
theorem d12_86 : decode prog_66_method_3_code 86 = .ok (.iadd, 1) := by decide +kernel
theorem d12_87 : decode prog_66_method_3_code 87 = .ok (.iaload, 1) := by decide +kernel
theorem d12_88 : decode prog_66_method_3_code 88 = .ok (.if_icmp .ge 22, 3) := by decide +kernel
theorem d12_91 : decode prog_66_method_3_code 91 = .ok (.aload 4, 2) := by decide +kernel
theorem d12_93 : decode prog_66_method_3_code 93 = .ok (.iload 5, 2) := by decide +kernel
theorem d12_95 : decode prog_66_method_3_code 95 = .ok (.aload_n 0, 1) := by decide +kernel
theorem d12_96 : decode prog_66_method_3_code 96 = .ok (.getfield 17, 3) := by decide +kernel
theorem d12_99 : decode prog_66_method_3_code 99 = .ok (.iconst 3, 1) := by decide +kernel
theorem d12_100 : decode prog_66_method_3_code 100 = .ok (.iload 6, 2) := by decide +kernel
theorem d12_102 : decode prog_66_method_3_code 102 = .ok (.imul, 1) := by decide +kernel
theorem d12_103 : decode prog_66_method_3_code 103 = .ok (.iconst 2, 1) := by decide +kernel
theorem d12_104 : decode prog_66_method_3_code 104 = .ok (.iadd, 1) := by decide +kernel
theorem d12_105 : decode prog_66_method_3_code 105 = .ok (.iaload, 1) := by decide +kernel
theorem d12_106 : decode prog_66_method_3_code 106 = .ok (.iastore, 1) := by decide +kernel
theorem d12_107 : decode prog_66_method_3_code 107 = .ok (.iinc 5 1, 3) := by decide +kernel
theorem d12_110 : decode prog_66_method_3_code 110 = .ok (.iinc 6 1, 3) := by decide +kernel
theorem d12_113 : decode prog_66_method_3_code 113 = .ok (.goto (-63), 3) := by decide +kernel
theorem d12_0 : decode prog_66_method_3_code 0 = .ok (.iload_n 1, 1) := by decide +kernel
theorem d12_1 : decode prog_66_method_3_code 1 = .ok (.aload_n 0, 1) := by decide +kernel
theorem d12_2 : decode prog_66_method_3_code 2 = .ok (.getfield 7, 3) := by decide +kernel
theorem d12_5 : decode prog_66_method_3_code 5 = .ok (.invokevirtual 26, 3) := by decide +kernel
theorem d12_8 : decode prog_66_method_3_code 8 = .ok (.idiv, 1) := by decide +kernel
theorem d12_9 : decode prog_66_method_3_code 9 = .ok (.istore_n 2, 1) := by decide +kernel
theorem d12_10 : decode prog_66_method_3_code 10 = .ok (.iload_n 1, 1) := by decide +kernel
theorem d12_11 : decode prog_66_method_3_code 11 = .ok (.aload_n 0, 1) := by decide +kernel
theorem d12_12 : decode prog_66_method_3_code 12 = .ok (.getfield 7, 3) := by decide +kernel
theorem d12_15 : decode prog_66_method_3_code 15 = .ok (.invokevirtual 26, 3) := by decide +kernel
theorem d12_18 : decode prog_66_method_3_code 18 = .ok (.irem, 1) := by decide +kernel
theorem d12_19 : decode prog_66_method_3_code 19 = .ok (.istore_n 3, 1) := by decide +kernel
theorem d12_20 : decode prog_66_method_3_code 20 = .ok (.aload_n 0, 1) := by decide +kernel
theorem d12_21 : decode prog_66_method_3_code 21 = .ok (.getfield 13, 3) := by decide +kernel
theorem d12_24 : decode prog_66_method_3_code 24 = .ok (.iload_n 2, 1) := by decide +kernel
theorem d12_25 : decode prog_66_method_3_code 25 = .ok (.iconst 1, 1) := by decide +kernel
theorem d12_26 : decode prog_66_method_3_code 26 = .ok (.iadd, 1) := by decide +kernel
theorem d12_27 : decode prog_66_method_3_code 27 = .ok (.iaload, 1) := by decide +kernel
theorem d12_28 : decode prog_66_method_3_code 28 = .ok (.aload_n 0, 1) := by decide +kernel
theorem d12_29 : decode prog_66_method_3_code 29 = .ok (.getfield 13, 3) := by decide +kernel
theorem d12_32 : decode prog_66_method_3_code 32 = .ok (.iload_n 2, 1) := by decide +kernel
theorem d12_33 : decode prog_66_method_3_code 33 = .ok (.iaload, 1) := by decide +kernel
theorem d12_34 : decode prog_66_method_3_code 34 = .ok (.isub, 1) := by decide +kernel
theorem d12_35 : decode prog_66_method_3_code 35 = .ok (.newarray .int, 2) := by decide +kernel
theorem d12_37 : decode prog_66_method_3_code 37 = .ok (.astore 4, 2) := by decide +kernel
theorem d12_39 : decode prog_66_method_3_code 39 = .ok (.iconst 0, 1) := by decide +kernel
theorem d12_40 : decode prog_66_method_3_code 40 = .ok (.istore 5, 2) := by decide +kernel
theorem d12_42 : decode prog_66_method_3_code 42 = .ok (.aload_n 0, 1) := by decide +kernel
theorem d12_43 : decode prog_66_method_3_code 43 = .ok (.getfield 13, 3) := by decide +kernel
theorem d12_46 : decode prog_66_method_3_code 46 = .ok (.iload_n 2, 1) := by decide +kernel
theorem d12_47 : decode prog_66_method_3_code 47 = .ok (.iaload, 1) := by decide +kernel
theorem d12_48 : decode prog_66_method_3_code 48 = .ok (.istore 6, 2) := by decide +kernel
theorem d12_50 : decode prog_66_method_3_code 50 = .ok (.iload 6, 2) := by decide +kernel
theorem d12_52 : decode prog_66_method_3_code 52 = .ok (.aload_n 0, 1) := by decide +kernel
theorem d12_53 : decode prog_66_method_3_code 53 = .ok (.getfield 13, 3) := by decide +kernel
theorem d12_56 : decode prog_66_method_3_code 56 = .ok (.iload_n 2, 1) := by decide +kernel
theorem d12_57 : decode prog_66_method_3_code 57 = .ok (.iconst 1, 1) := by decide +kernel
theorem d12_58 : decode prog_66_method_3_code 58 = .ok (.iadd, 1) := by decide +kernel
theorem d12_59 : decode prog_66_method_3_code 59 = .ok (.iaload, 1) := by decide +kernel
theorem d12_60 : decode prog_66_method_3_code 60 = .ok (.if_icmp .ge 56, 3) := by decide +kernel
theorem d12_116 : decode prog_66_method_3_code 116 = .ok (.aload 4, 2) := by decide +kernel
theorem d12_118 : decode prog_66_method_3_code 118 = .ok (.iload 5, 2) := by decide +kernel
theorem d12_120 : decode prog_66_method_3_code 120 = .ok (.invokestatic 41, 3) := by decide +kernel
theorem d12_123 : decode prog_66_method_3_code 123 = .ok (.areturn, 1) := by decide +kernel
theorem pn_12 : plainName "com/example/tilecairn/tilecairn/zonal/CoveredBlocks" = true := by first | (simp [plainName, overriddenIn]; done) | decide +kernel
theorem ef_12 (m : MethodId) (x0 : Addr) (x1 : Int32) : entryFrame m #[(.ref x0), (.int x1)] 7 = mkF m 0 #[.val (.ref x0), .val (.int x1), .unset, .unset, .unset, .unset, .unset] [] := by first | (simp [entryFrame, mkF, argsToLocals, Value.category]; done) | rfl
def Q12 (Z : State) (a1 : Addr) (p2 : Int32) (la sa rn : Addr) (z sr er zz : Int32) (rs ss vv : List Value) (h0 : Heap) (n0 : Nat) (v : Option Value) (h : Heap) (L : List Loc) : Prop := ∃ (bb : Addr) (kk : ClassId), v = some (.ref bb) ∧ Fr n0 L ∧ Keep h0 h [] ∧ Arv Z h bb kk .int zz vv (.int 0)
set_option maxRecDepth 65536 in
set_option maxHeartbeats 40000000 in
theorem rm12 (l : Launch) (Z : State) (a0 : Array Value) (hw : ∀ d ∈ tables_1, d.before a0 Z = true) (ws : List Jvm.Cond) (a1 : Addr) (p2 : Int32) (la sa rn : Addr) (z sr er zz : Int32) (rs ss vv : List Value) (h0 : Heap) (n0 : Nat) (Z0 : n0 ≤ h0.size) (S : own_C Z h0 la a1 sa rn z rs ss) (hrow : (¬ (own_div p2 (4 : Int32)) < 0 ∧ (own_div p2 (4 : Int32)) < (4 : Int32)) ∧ (¬ (own_div p2 (4 : Int32)) + (1 : Int32) < 0 ∧ (own_div p2 (4 : Int32)) + (1 : Int32) < (4 : Int32))) (hsr : ss.getD (own_div p2 (4 : Int32)).toNatClampNeg (.int 0) = .int sr) (her : ss.getD ((own_div p2 (4 : Int32)) + (1 : Int32)).toNatClampNeg (.int 0) = .int er) (hR : own_R rs z (own_rem p2 (4 : Int32)) sr er zz vv) :
    MetFree l (⟨"com/example/tilecairn/tilecairn/zonal/CoveredBlocks", "polygons", "(I)[I"⟩ : MethodName) (head1 (Jvm.Cond.code (⟨"com/example/tilecairn/tilecairn/zonal/CoveredBlocks", "polygons", "(I)[I"⟩ : MethodName) prog_66_method_3_code 7 (some (.array .int)) :: ws) ({ frames := 2, cells := 2, slots := 7, locals := 54 } : Room)) (fun a U => a = #[(.ref a1), (.int p2)] ∧ Z.Warmed39 U.vm ∧ U.heap = h0) (fun _ _ _ _ _ => True) (fun _ U o U' => ∃ v L, o = .returned v ∧ Q12 Z a1 p2 la sa rn z sr er zz rs ss vv h0 n0 v U'.heap L ∧ FrameEnd U o U' L ({ frames := 2, cells := 2, slots := 7, locals := 54 } : Room).cells ({ frames := 2, cells := 2, slots := 7, locals := 54 } : Room).slots) := by
  refine MetFree.of_bodySF (plainFor_of_name pn_12) hisR ?_
  intro p e s m args below meth c s₁ Bd hml0 hP hK
  obtain ⟨rfl, hZ, hh⟩ := hP
  have hx := Bd.exec
  have hby := Bd.bytes
  have hml : c.maxLocals = 7 := hml0
  have hown : s.vm.findClass "com/example/tilecairn/tilecairn/zonal/CoveredBlocks" = some m.cls := findClass_of_methodNamed Bd.named
  have hnm := (name_of_methodNamed Bd.named Bd.method).1
  have X0 : Stand p l e ({ frames := 2, cells := 2, slots := 7, locals := 54 } : Room) s m #[(.ref a1), (.int p2)] below meth c s₁ [] 0 0 := Stand.of_body Bd
  have e0 : s₁.heap = h0 := by rw [← hh, Bd.state]; rfl
  have N0 := Fr.nil n0
  have pre0 : ∀ t, Steps p.tables e below (s₁.setTop (mkF m 0 #[.val (.ref a1), .val (.int p2), .unset, .unset, .unset, .unset, .unset] [])) t → Steps p.tables e below (s₁.setTop (entryFrame m #[(.ref a1), (.int p2)] 7)) t := fun t k => castTop (ef_12 m a1 p2) k
  obtain ⟨Ex, El, Fba, Fla, Fst, Fru, ⟨ks, Vs⟩, ⟨kr, Vr⟩⟩ := S
  obtain ⟨cs, As, qs, Ss, Ms, Hs, Gs⟩ := Vs
  obtain ⟨cr, Ar, qr, Sr, Mr, Hr, Gr⟩ := Vr
  have is0 : ¬ ((own_div p2 (4 : Int32)) < 0 ∨ cs.slots.size ≤ ((own_div p2 (4 : Int32))).toNatClampNeg) := inb_of Ss hrow.1
  have is1 : ¬ (((own_div p2 (4 : Int32)) + (1 : Int32)) < 0 ∨ cs.slots.size ≤ (((own_div p2 (4 : Int32)) + (1 : Int32))).toNatClampNeg) := inb_of Ss hrow.2
  have as0 := Has.at Hs is0 hsr
  have as1 := Has.at Hs is1 her
  obtain ⟨T4_1, X4_1, e4_1, st4_1⟩ := getF X0 hx hZ hown (host := "") (Or.inl (hw _ (List.mem_of_getElem? (i := 84) rfl))) Via.refl e0 Fla (g := (mkF m 2 #[.val (.ref a1), .val (.int p2), .unset, .unset, .unset, .unset, .unset] [(.ref a1), (.int p2)])) rfl rfl (hb hby d12_2)
  obtain ⟨cq5_1, kq5_1, q5a_1, q5b_1, q5c_1⟩ := isOf hZ e4_1 El
  obtain ⟨_, _, ⟨T5_1, L5_1, k5_1, n5_1⟩, -, X5_1, ⟨Lc5_1, hQ5_1, l5_1, y5_1, z5_1⟩, st5_1⟩ := X4_1.virtualBack hx (y := (⟨"com/example/tilecairn/tilecairn/tiff/Layout", "blocksAcross", "()I"⟩ : MethodName)) (z := (⟨"com/example/tilecairn/tilecairn/tiff/Layout", "blocksAcross", "()I"⟩ : MethodName)) hown (mvT hZ (hw _ (List.mem_of_getElem? (i := 95) rfl))) (mvT hZ (hw _ (List.mem_of_getElem? (i := 96) rfl))) (notFace_of_selects (args := #[]) (mvT hZ (hw _ (List.mem_of_getElem? (i := 98) rfl)))) (mvT hZ (hw _ (List.mem_of_getElem? (i := 98) rfl))) (mvT hZ (hw _ (List.mem_of_getElem? (i := 97) rfl))) (by decide) (backOf (W := 1) (rm13 l Z a0 hw [] la (4 : Int32) h0 n0 Z0 Fba) hZ (hw _ (List.mem_of_getElem? (i := 99) rfl)) (hw _ (List.mem_of_getElem? (i := 3) rfl)) (by decide) (by decide)) q5a_1 q5c_1 (g := (mkF m 5 #[.val (.ref a1), .val (.int p2), .unset, .unset, .unset, .unset, .unset] [(.ref la), (.int p2)])) rfl (by rw [hml]; rfl) (Steps.refl _) (argsL := []) (rest := [(.int p2)]) (lenOf pd_1 rfl) rfl (by show 2 * 0 + _ ≤ _; exact Nat.le_of_eq rfl) (hb hby d12_5) (fun _ _ => ⟨rfl, e4_1, (by decide : 0 + 0 ≤ _), (by decide : 0 + 0 ≤ _)⟩)
  dsimp only [Pt.U, Pt.locs, Pt.cells, Pt.slots] at X5_1 l5_1 y5_1 z5_1 st5_1 hQ5_1
  subst l5_1 y5_1 z5_1
  obtain ⟨rfl, N5q_1, g5_1⟩ := hQ5_1
  have N5_1 := Fr.app N0 N5q_1
  have st_1p : ∀ target, Steps p.tables e below (T5_1.setTop (mkF m 10 #[.val (.ref a1), .val (.int p2), .val (.int (own_div p2 (4 : Int32))), .unset, .unset, .unset, .unset] [])) target → Steps p.tables e below (s₁.setTop (mkF m 0 #[.val (.ref a1), .val (.int p2), .unset, .unset, .unset, .unset, .unset] [])) target := by
    intro target kt
    show Steps p.tables e below (s₁.setTop (mkF m 0 #[.val (.ref a1), .val (.int p2), .unset, .unset, .unset, .unset, .unset] [])) _
    refine XS.iloadN X0.here hx rfl (hb hby d12_0) rfl ?_
    show Steps p.tables e below (s₁.setTop (mkF m 1 #[.val (.ref a1), .val (.int p2), .unset, .unset, .unset, .unset, .unset] [(.int p2)])) _
    refine XS.aloadN X0.here hx rfl (hb hby d12_1) rfl rfl ?_
    show Steps p.tables e below (s₁.setTop (mkF m 2 #[.val (.ref a1), .val (.int p2), .unset, .unset, .unset, .unset, .unset] [(.ref a1), (.int p2)])) _
    refine st4_1 _ ?_
    show Steps p.tables e below (T4_1.setTop (mkF m 5 #[.val (.ref a1), .val (.int p2), .unset, .unset, .unset, .unset, .unset] [(.ref la), (.int p2)])) _
    refine st5_1.trans ?_
    show Steps p.tables e below (T5_1.setTop (mkF m 8 #[.val (.ref a1), .val (.int p2), .unset, .unset, .unset, .unset, .unset] [(.int (4 : Int32)), (.int p2)])) _
    refine XS.idiv X5_1.here hx rfl (hb hby d12_8) rfl (by decide : (4 : Int32) ≠ 0) ?_
    show Steps p.tables e below (T5_1.setTop (mkF m 9 #[.val (.ref a1), .val (.int p2), .unset, .unset, .unset, .unset, .unset] [(.int (own_div p2 (4 : Int32)))])) _
    refine XS.istoreN X5_1.here hx rfl (hb hby d12_9) rfl (l' := #[.val (.ref a1), .val (.int p2), .val (.int (own_div p2 (4 : Int32))), .unset, .unset, .unset, .unset]) rfl ?_
    exact kt
  obtain ⟨T4_2, X4_2, e4_2, st4_2⟩ := getF X5_1 hx hZ hown (host := "") (Or.inl (hw _ (List.mem_of_getElem? (i := 84) rfl))) Via.refl g5_1 Fla (g := (mkF m 12 #[.val (.ref a1), .val (.int p2), .val (.int (own_div p2 (4 : Int32))), .unset, .unset, .unset, .unset] [(.ref a1), (.int p2)])) rfl rfl (hb hby d12_12)
  obtain ⟨cq5_2, kq5_2, q5a_2, q5b_2, q5c_2⟩ := isOf hZ e4_2 El
  obtain ⟨_, _, ⟨T5_2, L5_2, k5_2, n5_2⟩, -, X5_2, ⟨Lc5_2, hQ5_2, l5_2, y5_2, z5_2⟩, st5_2⟩ := X4_2.virtualBack hx (y := (⟨"com/example/tilecairn/tilecairn/tiff/Layout", "blocksAcross", "()I"⟩ : MethodName)) (z := (⟨"com/example/tilecairn/tilecairn/tiff/Layout", "blocksAcross", "()I"⟩ : MethodName)) hown (mvT hZ (hw _ (List.mem_of_getElem? (i := 95) rfl))) (mvT hZ (hw _ (List.mem_of_getElem? (i := 96) rfl))) (notFace_of_selects (args := #[]) (mvT hZ (hw _ (List.mem_of_getElem? (i := 98) rfl)))) (mvT hZ (hw _ (List.mem_of_getElem? (i := 98) rfl))) (mvT hZ (hw _ (List.mem_of_getElem? (i := 97) rfl))) (by decide) (backOf (W := 1) (rm13 l Z a0 hw [] la (4 : Int32) h0 n0 Z0 Fba) hZ (hw _ (List.mem_of_getElem? (i := 99) rfl)) (hw _ (List.mem_of_getElem? (i := 3) rfl)) (by decide) (by decide)) q5a_2 q5c_2 (g := (mkF m 15 #[.val (.ref a1), .val (.int p2), .val (.int (own_div p2 (4 : Int32))), .unset, .unset, .unset, .unset] [(.ref la), (.int p2)])) rfl (by rw [hml]; rfl) (Steps.refl _) (argsL := []) (rest := [(.int p2)]) (lenOf pd_1 rfl) rfl (by show 2 * 0 + _ ≤ _; exact Nat.le_of_eq rfl) (hb hby d12_15) (fun _ _ => ⟨rfl, e4_2, (by decide : 0 + 0 ≤ _), (by decide : 0 + 0 ≤ _)⟩)
  dsimp only [Pt.U, Pt.locs, Pt.cells, Pt.slots] at X5_2 l5_2 y5_2 z5_2 st5_2 hQ5_2
  subst l5_2 y5_2 z5_2
  obtain ⟨rfl, N5q_2, g5_2⟩ := hQ5_2
  have N5_2 := Fr.app N5_1 N5q_2
  have st_2p : ∀ target, Steps p.tables e below (T5_2.setTop (mkF m 20 #[.val (.ref a1), .val (.int p2), .val (.int (own_div p2 (4 : Int32))), .val (.int (own_rem p2 (4 : Int32))), .unset, .unset, .unset] [])) target → Steps p.tables e below (T5_1.setTop (mkF m 10 #[.val (.ref a1), .val (.int p2), .val (.int (own_div p2 (4 : Int32))), .unset, .unset, .unset, .unset] [])) target := by
    intro target kt
    show Steps p.tables e below (T5_1.setTop (mkF m 10 #[.val (.ref a1), .val (.int p2), .val (.int (own_div p2 (4 : Int32))), .unset, .unset, .unset, .unset] [])) _
    refine XS.iloadN X5_1.here hx rfl (hb hby d12_10) rfl ?_
    show Steps p.tables e below (T5_1.setTop (mkF m 11 #[.val (.ref a1), .val (.int p2), .val (.int (own_div p2 (4 : Int32))), .unset, .unset, .unset, .unset] [(.int p2)])) _
    refine XS.aloadN X5_1.here hx rfl (hb hby d12_11) rfl rfl ?_
    show Steps p.tables e below (T5_1.setTop (mkF m 12 #[.val (.ref a1), .val (.int p2), .val (.int (own_div p2 (4 : Int32))), .unset, .unset, .unset, .unset] [(.ref a1), (.int p2)])) _
    refine st4_2 _ ?_
    show Steps p.tables e below (T4_2.setTop (mkF m 15 #[.val (.ref a1), .val (.int p2), .val (.int (own_div p2 (4 : Int32))), .unset, .unset, .unset, .unset] [(.ref la), (.int p2)])) _
    refine st5_2.trans ?_
    show Steps p.tables e below (T5_2.setTop (mkF m 18 #[.val (.ref a1), .val (.int p2), .val (.int (own_div p2 (4 : Int32))), .unset, .unset, .unset, .unset] [(.int (4 : Int32)), (.int p2)])) _
    refine XS.irem X5_2.here hx rfl (hb hby d12_18) rfl (by decide : (4 : Int32) ≠ 0) ?_
    show Steps p.tables e below (T5_2.setTop (mkF m 19 #[.val (.ref a1), .val (.int p2), .val (.int (own_div p2 (4 : Int32))), .unset, .unset, .unset, .unset] [(.int (own_rem p2 (4 : Int32)))])) _
    refine XS.istoreN X5_2.here hx rfl (hb hby d12_19) rfl (l' := #[.val (.ref a1), .val (.int p2), .val (.int (own_div p2 (4 : Int32))), .val (.int (own_rem p2 (4 : Int32))), .unset, .unset, .unset]) rfl ?_
    exact kt
  have hlen : er - sr = 0 ∨ er - sr = 1 := by
    rcases hR with ⟨q, -, -⟩ | ⟨_, _, _, q, -⟩
    · left; rw [q]; exact Int32.sub_self sr
    · exact Or.inr q
  have hln : ¬ er - sr < 0 ∧ (er - sr).toNatClampNeg ≤ 1 := by rcases hlen with q | q <;> rw [q] <;> decide
  obtain ⟨T4_3, X4_3, e4_3, st4_3⟩ := getF X5_2 hx hZ hown (host := "") (Or.inl (hw _ (List.mem_of_getElem? (i := 86) rfl))) Via.refl g5_2 Fst (g := (mkF m 21 #[.val (.ref a1), .val (.int p2), .val (.int (own_div p2 (4 : Int32))), .val (.int (own_rem p2 (4 : Int32))), .unset, .unset, .unset] [(.ref a1)])) rfl rfl (hb hby d12_21)
  obtain ⟨T6_3, X6_3, e6_3, st6_3⟩ := getF X4_3 hx hZ hown (host := "") (Or.inl (hw _ (List.mem_of_getElem? (i := 86) rfl))) Via.refl e4_3 Fst (g := (mkF m 29 #[.val (.ref a1), .val (.int p2), .val (.int (own_div p2 (4 : Int32))), .val (.int (own_rem p2 (4 : Int32))), .unset, .unset, .unset] [(.ref a1), (.int er)])) rfl rfl (hb hby d12_29)
  obtain ⟨T8_3, h8_3, k8_3, X8_3, e8_3, E8_3, A8_3, EX, st8_3⟩ := newPE X6_3 hx hZ (hw _ (List.mem_of_getElem? (i := 32) rfl)) e6_3 (g := (mkF m 35 #[.val (.ref a1), .val (.int p2), .val (.int (own_div p2 (4 : Int32))), .val (.int (own_rem p2 (4 : Int32))), .unset, .unset, .unset] [(.int (er - sr))])) rfl (hb hby d12_35) rfl hln.1 (cap := 1) hln.2 (by decide) (by decide) (by decide) (ad := "[I") (by decide)
  obtain ⟨b8_3, g8_3⟩ : ∃ z, z = h0.size := ⟨_, rfl⟩
  rw [← g8_3] at A8_3 EX st8_3
  have V_b8_3 := Arv.new A8_3 hln.1
  have g_b8_3 : n0 ≤ b8_3 := Nat.le_trans Z0 (Nat.le_of_eq g8_3.symm)
  have sz_b8_3 : h0.size ≤ b8_3 := (Nat.le_trans (Keep.refl h0 []).1 (Nat.le_of_eq g8_3.symm))
  have K8_3 : Keep h0 h8_3 [] := (Keep.refl h0 []).ext E8_3
  have st_3p : ∀ target, Steps p.tables e below (T8_3.setTop (mkF m 42 #[.val (.ref a1), .val (.int p2), .val (.int (own_div p2 (4 : Int32))), .val (.int (own_rem p2 (4 : Int32))), .val (.ref b8_3), .val (.int (0 : Int32)), .unset] [])) target → Steps p.tables e below (T5_2.setTop (mkF m 20 #[.val (.ref a1), .val (.int p2), .val (.int (own_div p2 (4 : Int32))), .val (.int (own_rem p2 (4 : Int32))), .unset, .unset, .unset] [])) target := by
    intro target kt
    show Steps p.tables e below (T5_2.setTop (mkF m 20 #[.val (.ref a1), .val (.int p2), .val (.int (own_div p2 (4 : Int32))), .val (.int (own_rem p2 (4 : Int32))), .unset, .unset, .unset] [])) _
    refine XS.aloadN X5_2.here hx rfl (hb hby d12_20) rfl rfl ?_
    show Steps p.tables e below (T5_2.setTop (mkF m 21 #[.val (.ref a1), .val (.int p2), .val (.int (own_div p2 (4 : Int32))), .val (.int (own_rem p2 (4 : Int32))), .unset, .unset, .unset] [(.ref a1)])) _
    refine st4_3 _ ?_
    show Steps p.tables e below (T4_3.setTop (mkF m 24 #[.val (.ref a1), .val (.int p2), .val (.int (own_div p2 (4 : Int32))), .val (.int (own_rem p2 (4 : Int32))), .unset, .unset, .unset] [(.ref sa)])) _
    refine XS.iloadN X4_3.here hx rfl (hb hby d12_24) rfl ?_
    show Steps p.tables e below (T4_3.setTop (mkF m 25 #[.val (.ref a1), .val (.int p2), .val (.int (own_div p2 (4 : Int32))), .val (.int (own_rem p2 (4 : Int32))), .unset, .unset, .unset] [(.int (own_div p2 (4 : Int32))), (.ref sa)])) _
    refine XS.iconst X4_3.here hx rfl (hb hby d12_25) ?_
    show Steps p.tables e below (T4_3.setTop (mkF m 26 #[.val (.ref a1), .val (.int p2), .val (.int (own_div p2 (4 : Int32))), .val (.int (own_rem p2 (4 : Int32))), .unset, .unset, .unset] [(.int (1 : Int32)), (.int (own_div p2 (4 : Int32))), (.ref sa)])) _
    refine XS.iadd X4_3.here hx rfl (hb hby d12_26) rfl ?_
    show Steps p.tables e below (T4_3.setTop (mkF m 27 #[.val (.ref a1), .val (.int p2), .val (.int (own_div p2 (4 : Int32))), .val (.int (own_rem p2 (4 : Int32))), .unset, .unset, .unset] [(.int ((own_div p2 (4 : Int32)) + (1 : Int32))), (.ref sa)])) _
    refine X4_3.iaload hx (j := ((own_div p2 (4 : Int32)) + (1 : Int32))) (v := (.int er)) (by rw [e4_3]; exact As.1) (State.isArrayOf_alike hZ.alike As.2.1) As.2.2 is1 as1 (g := (mkF m 27 #[.val (.ref a1), .val (.int p2), .val (.int (own_div p2 (4 : Int32))), .val (.int (own_rem p2 (4 : Int32))), .unset, .unset, .unset] [(.int ((own_div p2 (4 : Int32)) + (1 : Int32))), (.ref sa)])) rfl rfl (hb hby d12_27) _ ?_
    show Steps p.tables e below (T4_3.setTop (mkF m 28 #[.val (.ref a1), .val (.int p2), .val (.int (own_div p2 (4 : Int32))), .val (.int (own_rem p2 (4 : Int32))), .unset, .unset, .unset] [(.int er)])) _
    refine XS.aloadN X4_3.here hx rfl (hb hby d12_28) rfl rfl ?_
    show Steps p.tables e below (T4_3.setTop (mkF m 29 #[.val (.ref a1), .val (.int p2), .val (.int (own_div p2 (4 : Int32))), .val (.int (own_rem p2 (4 : Int32))), .unset, .unset, .unset] [(.ref a1), (.int er)])) _
    refine st6_3 _ ?_
    show Steps p.tables e below (T6_3.setTop (mkF m 32 #[.val (.ref a1), .val (.int p2), .val (.int (own_div p2 (4 : Int32))), .val (.int (own_rem p2 (4 : Int32))), .unset, .unset, .unset] [(.ref sa), (.int er)])) _
    refine XS.iloadN X6_3.here hx rfl (hb hby d12_32) rfl ?_
    show Steps p.tables e below (T6_3.setTop (mkF m 33 #[.val (.ref a1), .val (.int p2), .val (.int (own_div p2 (4 : Int32))), .val (.int (own_rem p2 (4 : Int32))), .unset, .unset, .unset] [(.int (own_div p2 (4 : Int32))), (.ref sa), (.int er)])) _
    refine X6_3.iaload hx (j := (own_div p2 (4 : Int32))) (v := (.int sr)) (by rw [e6_3]; exact As.1) (State.isArrayOf_alike hZ.alike As.2.1) As.2.2 is0 as0 (g := (mkF m 33 #[.val (.ref a1), .val (.int p2), .val (.int (own_div p2 (4 : Int32))), .val (.int (own_rem p2 (4 : Int32))), .unset, .unset, .unset] [(.int (own_div p2 (4 : Int32))), (.ref sa), (.int er)])) rfl rfl (hb hby d12_33) _ ?_
    show Steps p.tables e below (T6_3.setTop (mkF m 34 #[.val (.ref a1), .val (.int p2), .val (.int (own_div p2 (4 : Int32))), .val (.int (own_rem p2 (4 : Int32))), .unset, .unset, .unset] [(.int sr), (.int er)])) _
    refine XS.isub X6_3.here hx rfl (hb hby d12_34) rfl ?_
    show Steps p.tables e below (T6_3.setTop (mkF m 35 #[.val (.ref a1), .val (.int p2), .val (.int (own_div p2 (4 : Int32))), .val (.int (own_rem p2 (4 : Int32))), .unset, .unset, .unset] [(.int (er - sr))])) _
    refine st8_3 _ ?_
    show Steps p.tables e below (T8_3.setTop (mkF m 37 #[.val (.ref a1), .val (.int p2), .val (.int (own_div p2 (4 : Int32))), .val (.int (own_rem p2 (4 : Int32))), .unset, .unset, .unset] [(.ref b8_3)])) _
    refine XS.astore X8_3.here hx rfl (hb hby d12_37) rfl rfl (l' := #[.val (.ref a1), .val (.int p2), .val (.int (own_div p2 (4 : Int32))), .val (.int (own_rem p2 (4 : Int32))), .val (.ref b8_3), .unset, .unset]) rfl ?_
    show Steps p.tables e below (T8_3.setTop (mkF m 39 #[.val (.ref a1), .val (.int p2), .val (.int (own_div p2 (4 : Int32))), .val (.int (own_rem p2 (4 : Int32))), .val (.ref b8_3), .unset, .unset] [])) _
    refine XS.iconst X8_3.here hx rfl (hb hby d12_39) ?_
    show Steps p.tables e below (T8_3.setTop (mkF m 40 #[.val (.ref a1), .val (.int p2), .val (.int (own_div p2 (4 : Int32))), .val (.int (own_rem p2 (4 : Int32))), .val (.ref b8_3), .unset, .unset] [(.int (0 : Int32))])) _
    refine XS.istore X8_3.here hx rfl (hb hby d12_40) rfl (l' := #[.val (.ref a1), .val (.int p2), .val (.int (own_div p2 (4 : Int32))), .val (.int (own_rem p2 (4 : Int32))), .val (.ref b8_3), .val (.int (0 : Int32)), .unset]) rfl ?_
    exact kt
  have Z8 : n0 ≤ h8_3.size := Nat.le_trans Z0 K8_3.1
  have nea : a1 ≠ b8_3 := by rw [g8_3]; exact Nat.ne_of_lt Ex.lt
  have nes : sa ≠ b8_3 := by rw [g8_3]; exact Nat.ne_of_lt As.lt
  have Fst8 := Fst.ext E8_3
  have Fru8 := Fru.ext E8_3
  have As8 := As.ext E8_3
  have Ar8 := Ar.ext E8_3
  obtain ⟨T4_4, X4_4, e4_4, st4_4⟩ := getF X8_3 hx hZ hown (host := "") (Or.inl (hw _ (List.mem_of_getElem? (i := 86) rfl))) Via.refl e8_3 Fst8 (g := (mkF m 43 #[.val (.ref a1), .val (.int p2), .val (.int (own_div p2 (4 : Int32))), .val (.int (own_rem p2 (4 : Int32))), .val (.ref b8_3), .val (.int (0 : Int32)), .unset] [(.ref a1)])) rfl rfl (hb hby d12_43)
  have st_4p : ∀ target, Steps p.tables e below (T4_4.setTop (mkF m 50 #[.val (.ref a1), .val (.int p2), .val (.int (own_div p2 (4 : Int32))), .val (.int (own_rem p2 (4 : Int32))), .val (.ref b8_3), .val (.int (0 : Int32)), .val (.int sr)] [])) target → Steps p.tables e below (T8_3.setTop (mkF m 42 #[.val (.ref a1), .val (.int p2), .val (.int (own_div p2 (4 : Int32))), .val (.int (own_rem p2 (4 : Int32))), .val (.ref b8_3), .val (.int (0 : Int32)), .unset] [])) target := by
    intro target kt
    show Steps p.tables e below (T8_3.setTop (mkF m 42 #[.val (.ref a1), .val (.int p2), .val (.int (own_div p2 (4 : Int32))), .val (.int (own_rem p2 (4 : Int32))), .val (.ref b8_3), .val (.int (0 : Int32)), .unset] [])) _
    refine XS.aloadN X8_3.here hx rfl (hb hby d12_42) rfl rfl ?_
    show Steps p.tables e below (T8_3.setTop (mkF m 43 #[.val (.ref a1), .val (.int p2), .val (.int (own_div p2 (4 : Int32))), .val (.int (own_rem p2 (4 : Int32))), .val (.ref b8_3), .val (.int (0 : Int32)), .unset] [(.ref a1)])) _
    refine st4_4 _ ?_
    show Steps p.tables e below (T4_4.setTop (mkF m 46 #[.val (.ref a1), .val (.int p2), .val (.int (own_div p2 (4 : Int32))), .val (.int (own_rem p2 (4 : Int32))), .val (.ref b8_3), .val (.int (0 : Int32)), .unset] [(.ref sa)])) _
    refine XS.iloadN X4_4.here hx rfl (hb hby d12_46) rfl ?_
    show Steps p.tables e below (T4_4.setTop (mkF m 47 #[.val (.ref a1), .val (.int p2), .val (.int (own_div p2 (4 : Int32))), .val (.int (own_rem p2 (4 : Int32))), .val (.ref b8_3), .val (.int (0 : Int32)), .unset] [(.int (own_div p2 (4 : Int32))), (.ref sa)])) _
    refine X4_4.iaload hx (j := (own_div p2 (4 : Int32))) (v := (.int sr)) (by rw [e4_4]; exact As8.1) (State.isArrayOf_alike hZ.alike As8.2.1) As8.2.2 is0 as0 (g := (mkF m 47 #[.val (.ref a1), .val (.int p2), .val (.int (own_div p2 (4 : Int32))), .val (.int (own_rem p2 (4 : Int32))), .val (.ref b8_3), .val (.int (0 : Int32)), .unset] [(.int (own_div p2 (4 : Int32))), (.ref sa)])) rfl rfl (hb hby d12_47) _ ?_
    show Steps p.tables e below (T4_4.setTop (mkF m 48 #[.val (.ref a1), .val (.int p2), .val (.int (own_div p2 (4 : Int32))), .val (.int (own_rem p2 (4 : Int32))), .val (.ref b8_3), .val (.int (0 : Int32)), .unset] [(.int sr)])) _
    refine XS.istore X4_4.here hx rfl (hb hby d12_48) rfl (l' := #[.val (.ref a1), .val (.int p2), .val (.int (own_div p2 (4 : Int32))), .val (.int (own_rem p2 (4 : Int32))), .val (.ref b8_3), .val (.int (0 : Int32)), .val (.int sr)]) rfl ?_
    exact kt
  rcases hR with ⟨q, rfl, rfl⟩ | ⟨c', d', pp, h1, hlt, hend, j0, j1, j2, v0, v1, v2, hres⟩
  · have hc60_5 : ¬ (sr < er) := (by rw [q]; exact own_irr sr)
    obtain ⟨T4_5, X4_5, e4_5, st4_5⟩ := getF X4_4 hx hZ hown (host := "") (Or.inl (hw _ (List.mem_of_getElem? (i := 86) rfl))) Via.refl e4_4 Fst8 (g := (mkF m 53 #[.val (.ref a1), .val (.int p2), .val (.int (own_div p2 (4 : Int32))), .val (.int (own_rem p2 (4 : Int32))), .val (.ref b8_3), .val (.int (0 : Int32)), .val (.int sr)] [(.ref a1), (.int sr)])) rfl rfl (hb hby d12_53)
    have st_5p : ∀ target, Steps p.tables e below (T4_5.setTop (mkF m 116 #[.val (.ref a1), .val (.int p2), .val (.int (own_div p2 (4 : Int32))), .val (.int (own_rem p2 (4 : Int32))), .val (.ref b8_3), .val (.int (0 : Int32)), .val (.int sr)] [])) target → Steps p.tables e below (T4_4.setTop (mkF m 50 #[.val (.ref a1), .val (.int p2), .val (.int (own_div p2 (4 : Int32))), .val (.int (own_rem p2 (4 : Int32))), .val (.ref b8_3), .val (.int (0 : Int32)), .val (.int sr)] [])) target := by
      intro target kt
      show Steps p.tables e below (T4_4.setTop (mkF m 50 #[.val (.ref a1), .val (.int p2), .val (.int (own_div p2 (4 : Int32))), .val (.int (own_rem p2 (4 : Int32))), .val (.ref b8_3), .val (.int (0 : Int32)), .val (.int sr)] [])) _
      refine XS.iload X4_4.here hx rfl (hb hby d12_50) rfl ?_
      show Steps p.tables e below (T4_4.setTop (mkF m 52 #[.val (.ref a1), .val (.int p2), .val (.int (own_div p2 (4 : Int32))), .val (.int (own_rem p2 (4 : Int32))), .val (.ref b8_3), .val (.int (0 : Int32)), .val (.int sr)] [(.int sr)])) _
      refine XS.aloadN X4_4.here hx rfl (hb hby d12_52) rfl rfl ?_
      show Steps p.tables e below (T4_4.setTop (mkF m 53 #[.val (.ref a1), .val (.int p2), .val (.int (own_div p2 (4 : Int32))), .val (.int (own_rem p2 (4 : Int32))), .val (.ref b8_3), .val (.int (0 : Int32)), .val (.int sr)] [(.ref a1), (.int sr)])) _
      refine st4_5 _ ?_
      show Steps p.tables e below (T4_5.setTop (mkF m 56 #[.val (.ref a1), .val (.int p2), .val (.int (own_div p2 (4 : Int32))), .val (.int (own_rem p2 (4 : Int32))), .val (.ref b8_3), .val (.int (0 : Int32)), .val (.int sr)] [(.ref sa), (.int sr)])) _
      refine XS.iloadN X4_5.here hx rfl (hb hby d12_56) rfl ?_
      show Steps p.tables e below (T4_5.setTop (mkF m 57 #[.val (.ref a1), .val (.int p2), .val (.int (own_div p2 (4 : Int32))), .val (.int (own_rem p2 (4 : Int32))), .val (.ref b8_3), .val (.int (0 : Int32)), .val (.int sr)] [(.int (own_div p2 (4 : Int32))), (.ref sa), (.int sr)])) _
      refine XS.iconst X4_5.here hx rfl (hb hby d12_57) ?_
      show Steps p.tables e below (T4_5.setTop (mkF m 58 #[.val (.ref a1), .val (.int p2), .val (.int (own_div p2 (4 : Int32))), .val (.int (own_rem p2 (4 : Int32))), .val (.ref b8_3), .val (.int (0 : Int32)), .val (.int sr)] [(.int (1 : Int32)), (.int (own_div p2 (4 : Int32))), (.ref sa), (.int sr)])) _
      refine XS.iadd X4_5.here hx rfl (hb hby d12_58) rfl ?_
      show Steps p.tables e below (T4_5.setTop (mkF m 59 #[.val (.ref a1), .val (.int p2), .val (.int (own_div p2 (4 : Int32))), .val (.int (own_rem p2 (4 : Int32))), .val (.ref b8_3), .val (.int (0 : Int32)), .val (.int sr)] [(.int ((own_div p2 (4 : Int32)) + (1 : Int32))), (.ref sa), (.int sr)])) _
      refine X4_5.iaload hx (j := ((own_div p2 (4 : Int32)) + (1 : Int32))) (v := (.int er)) (by rw [e4_5]; exact As8.1) (State.isArrayOf_alike hZ.alike As8.2.1) As8.2.2 is1 as1 (g := (mkF m 59 #[.val (.ref a1), .val (.int p2), .val (.int (own_div p2 (4 : Int32))), .val (.int (own_rem p2 (4 : Int32))), .val (.ref b8_3), .val (.int (0 : Int32)), .val (.int sr)] [(.int ((own_div p2 (4 : Int32)) + (1 : Int32))), (.ref sa), (.int sr)])) rfl rfl (hb hby d12_59) _ ?_
      show Steps p.tables e below (T4_5.setTop (mkF m 60 #[.val (.ref a1), .val (.int p2), .val (.int (own_div p2 (4 : Int32))), .val (.int (own_rem p2 (4 : Int32))), .val (.ref b8_3), .val (.int (0 : Int32)), .val (.int sr)] [(.int er), (.int sr)])) _
      refine XS.icmpYes X4_5.here hx rfl (pc0 := 60) (pc' := 116) rfl (hb hby d12_60) rfl (flt hc60_5).2.1 (by decide) (by decide) ?_
      exact kt
    have h0l : er - sr = 0 := by rw [q]; exact Int32.sub_self sr
    obtain ⟨_, _, ⟨T3_6, L3_6, k3_6, n3_6⟩, -, X3_6, ⟨Lc3_6, hQ3_6, l3_6, y3_6, z3_6⟩, st3_6⟩ := Jvm.LawKit.callS X4_5 hx (y := (⟨"java/util/Arrays", "copyOf", "([II)[I"⟩ : MethodName)) hown (mvT hZ (hw _ (List.mem_of_getElem? (i := 100) rfl))) (mvT hZ (hw _ (List.mem_of_getElem? (i := 70) rfl))) (mvT hZ (hw _ (List.mem_of_getElem? (i := 50) rfl))) (mvT hZ (hw _ (List.mem_of_getElem? (i := 71) rfl))) (by decide) (backOf (W := 0) (rm9c l Z a0 hw [] b8_3 (0 : Int32) k8_3 (er - sr) [] h8_3 n0 Z8 V_b8_3 EX h0l.symm (by rw [h0l]; decide)) hZ (hw _ (List.mem_of_getElem? (i := 71) rfl)) (hw _ (List.mem_of_getElem? (i := 50) rfl)) (by decide) (by decide)) (g := (mkF m 120 #[.val (.ref a1), .val (.int p2), .val (.int (own_div p2 (4 : Int32))), .val (.int (own_rem p2 (4 : Int32))), .val (.ref b8_3), .val (.int (0 : Int32)), .val (.int sr)] [(.int (0 : Int32)), (.ref b8_3)])) rfl (by rw [hml]; rfl) (argsL := [(.ref b8_3), (.int (0 : Int32))]) (rest := []) (lenOf pd_6 rfl) rfl (by show 2 * 0 + _ ≤ _; exact Nat.le_of_eq rfl) (hb hby d12_120) (fun _ _ => ⟨rfl, e4_5, (by decide : 0 + 1 + 1 ≤ _), (by decide : 0 + 1 + 6 ≤ _)⟩)
    dsimp only [Pt.U, Pt.locs, Pt.cells, Pt.slots] at X3_6 l3_6 y3_6 z3_6 st3_6 hQ3_6
    subst l3_6 y3_6 z3_6
    obtain ⟨rfl, N3q_6, K9_6, V9_6⟩ := hQ3_6
    have N3_6 := Fr.app N5_2 N3q_6
    have st_6p : ∀ target, Steps p.tables e below (T3_6.setTop (mkF m 123 #[.val (.ref a1), .val (.int p2), .val (.int (own_div p2 (4 : Int32))), .val (.int (own_rem p2 (4 : Int32))), .val (.ref b8_3), .val (.int (0 : Int32)), .val (.int sr)] [(.ref h8_3.size)])) target → Steps p.tables e below (T4_5.setTop (mkF m 116 #[.val (.ref a1), .val (.int p2), .val (.int (own_div p2 (4 : Int32))), .val (.int (own_rem p2 (4 : Int32))), .val (.ref b8_3), .val (.int (0 : Int32)), .val (.int sr)] [])) target := by
      intro target kt
      show Steps p.tables e below (T4_5.setTop (mkF m 116 #[.val (.ref a1), .val (.int p2), .val (.int (own_div p2 (4 : Int32))), .val (.int (own_rem p2 (4 : Int32))), .val (.ref b8_3), .val (.int (0 : Int32)), .val (.int sr)] [])) _
      refine XS.aload X4_5.here hx rfl (hb hby d12_116) rfl rfl ?_
      show Steps p.tables e below (T4_5.setTop (mkF m 118 #[.val (.ref a1), .val (.int p2), .val (.int (own_div p2 (4 : Int32))), .val (.int (own_rem p2 (4 : Int32))), .val (.ref b8_3), .val (.int (0 : Int32)), .val (.int sr)] [(.ref b8_3)])) _
      refine XS.iload X4_5.here hx rfl (hb hby d12_118) rfl ?_
      show Steps p.tables e below (T4_5.setTop (mkF m 120 #[.val (.ref a1), .val (.int p2), .val (.int (own_div p2 (4 : Int32))), .val (.int (own_rem p2 (4 : Int32))), .val (.ref b8_3), .val (.int (0 : Int32)), .val (.int sr)] [(.int (0 : Int32)), (.ref b8_3)])) _
      refine st3_6 _ ?_
      exact kt
    obtain ⟨fs, hr, hrun, hended, hW, hsame⟩ := X3_6.leave (v := some (.ref h8_3.size)) (fun h => by rw [Bd.returns] at h; cases h)
    refine ⟨_, _, pre0 _ ?_, hrun, hended, _, _, rfl, ?_, ⟨_, rfl⟩, hW, hsame.mono (by decide) (by decide)⟩
    · show Steps p.tables e below (s₁.setTop (mkF m 0 #[.val (.ref a1), .val (.int p2), .unset, .unset, .unset, .unset, .unset] [])) _
      refine st_1p _ ?_
      refine st_2p _ ?_
      refine st_3p _ ?_
      refine st_4p _ ?_
      refine st_5p _ ?_
      refine st_6p _ ?_
      jvm_step X3_6.here [X3_6.here.top, hx, (hb hby d12_123), X3_6.method', Bd.returns, Value.isRef, FieldType.isReference]
      first | (intro acts; rw [hr _ acts rfl rfl rfl]) | rw [hr _ _ rfl rfl rfl]
      exact Steps.refl _
    · show Q12 Z a1 p2 la sa rn z sr er (0 : Int32) rs ss [] h0 n0 _ T3_6.heap _
      exact ⟨_, _, rfl, N3_6, K8_3.trans K9_6 all0, by have u := V9_6; rw [h0l] at u; exact u⟩
  · have ir0 : ¬ (((3 : Int32) * sr) < 0 ∨ cr.slots.size ≤ (((3 : Int32) * sr)).toNatClampNeg) := inb_of Sr j0
    have ir1 : ¬ ((((3 : Int32) * sr) + (1 : Int32)) < 0 ∨ cr.slots.size ≤ ((((3 : Int32) * sr) + (1 : Int32))).toNatClampNeg) := inb_of Sr j1
    have ir2 : ¬ ((((3 : Int32) * sr) + (2 : Int32)) < 0 ∨ cr.slots.size ≤ ((((3 : Int32) * sr) + (2 : Int32))).toNatClampNeg) := inb_of Sr j2
    have ar0 := Has.at Hr ir0 v0
    have ar1 := Has.at Hr ir1 v1
    have ar2 := Has.at Hr ir2 v2
    rcases hres with ⟨hc1, hc2, rfl, rfl⟩ | ⟨hno, rfl, rfl⟩
    · obtain ⟨co, Ao, qo, So, Mo, Ho, Go⟩ := own_pad 1 V_b8_3 h1
      have io : ¬ ((0 : Int32) < 0 ∨ co.slots.size ≤ ((0 : Int32)).toNatClampNeg) := inb_of So ⟨by decide, by decide⟩
      have hc60_7 : sr < er := hlt
      have hc73_7 : ¬ ((own_rem p2 (4 : Int32)) < c') := hc1
      have hc88_7 : (own_rem p2 (4 : Int32)) < d' := hc2
      obtain ⟨T4_7, X4_7, e4_7, st4_7⟩ := getF X4_4 hx hZ hown (host := "") (Or.inl (hw _ (List.mem_of_getElem? (i := 86) rfl))) Via.refl e4_4 Fst8 (g := (mkF m 53 #[.val (.ref a1), .val (.int p2), .val (.int (own_div p2 (4 : Int32))), .val (.int (own_rem p2 (4 : Int32))), .val (.ref b8_3), .val (.int (0 : Int32)), .val (.int sr)] [(.ref a1), (.int sr)])) rfl rfl (hb hby d12_53)
      obtain ⟨T7_7, X7_7, e7_7, st7_7⟩ := getF X4_7 hx hZ hown (host := "") (Or.inl (hw _ (List.mem_of_getElem? (i := 88) rfl))) Via.refl e4_7 Fru8 (g := (mkF m 64 #[.val (.ref a1), .val (.int p2), .val (.int (own_div p2 (4 : Int32))), .val (.int (own_rem p2 (4 : Int32))), .val (.ref b8_3), .val (.int (0 : Int32)), .val (.int sr)] [(.ref a1)])) rfl rfl (hb hby d12_64)
      obtain ⟨T9_7, X9_7, e9_7, st9_7⟩ := getF X7_7 hx hZ hown (host := "") (Or.inl (hw _ (List.mem_of_getElem? (i := 88) rfl))) Via.refl e7_7 Fru8 (g := (mkF m 78 #[.val (.ref a1), .val (.int p2), .val (.int (own_div p2 (4 : Int32))), .val (.int (own_rem p2 (4 : Int32))), .val (.ref b8_3), .val (.int (0 : Int32)), .val (.int sr)] [(.ref a1), (.int (own_rem p2 (4 : Int32)))])) rfl rfl (hb hby d12_78)
      obtain ⟨T11_7, X11_7, e11_7, st11_7⟩ := getF X9_7 hx hZ hown (host := "") (Or.inl (hw _ (List.mem_of_getElem? (i := 88) rfl))) Via.refl e9_7 Fru8 (g := (mkF m 96 #[.val (.ref a1), .val (.int p2), .val (.int (own_div p2 (4 : Int32))), .val (.int (own_rem p2 (4 : Int32))), .val (.ref b8_3), .val (.int (0 : Int32)), .val (.int sr)] [(.ref a1), (.int (0 : Int32)), (.ref b8_3)])) rfl rfl (hb hby d12_96)
      obtain ⟨T13_7, h13_7, X13_7, e13_7, W13_7, st13_7⟩ := stI X11_7 hx hZ e11_7 Ao (j := (0 : Int32)) io (g := (mkF m 106 #[.val (.ref a1), .val (.int p2), .val (.int (own_div p2 (4 : Int32))), .val (.int (own_rem p2 (4 : Int32))), .val (.ref b8_3), .val (.int (0 : Int32)), .val (.int sr)] [(.int pp), (.int (0 : Int32)), (.ref b8_3)])) rfl rfl (hb hby d12_106)
      have N13_7 := Fr.snoc X13_7 N5_2 g_b8_3
      have K13_7 : Keep h8_3 h13_7 [b8_3] := (Keep.refl h8_3 [b8_3]).wr W13_7 (Or.inl (List.mem_of_getElem? (i := 0) rfl))
      have st_7p : ∀ target, Steps p.tables e below (T13_7.setTop (mkF m 50 #[.val (.ref a1), .val (.int p2), .val (.int (own_div p2 (4 : Int32))), .val (.int (own_rem p2 (4 : Int32))), .val (.ref b8_3), .val (.int ((0 : Int32) + (1 : Int32))), .val (.int (sr + (1 : Int32)))] [])) target → Steps p.tables e below (T4_4.setTop (mkF m 50 #[.val (.ref a1), .val (.int p2), .val (.int (own_div p2 (4 : Int32))), .val (.int (own_rem p2 (4 : Int32))), .val (.ref b8_3), .val (.int (0 : Int32)), .val (.int sr)] [])) target := by
        intro target kt
        show Steps p.tables e below (T4_4.setTop (mkF m 50 #[.val (.ref a1), .val (.int p2), .val (.int (own_div p2 (4 : Int32))), .val (.int (own_rem p2 (4 : Int32))), .val (.ref b8_3), .val (.int (0 : Int32)), .val (.int sr)] [])) _
        refine XS.iload X4_4.here hx rfl (hb hby d12_50) rfl ?_
        show Steps p.tables e below (T4_4.setTop (mkF m 52 #[.val (.ref a1), .val (.int p2), .val (.int (own_div p2 (4 : Int32))), .val (.int (own_rem p2 (4 : Int32))), .val (.ref b8_3), .val (.int (0 : Int32)), .val (.int sr)] [(.int sr)])) _
        refine XS.aloadN X4_4.here hx rfl (hb hby d12_52) rfl rfl ?_
        show Steps p.tables e below (T4_4.setTop (mkF m 53 #[.val (.ref a1), .val (.int p2), .val (.int (own_div p2 (4 : Int32))), .val (.int (own_rem p2 (4 : Int32))), .val (.ref b8_3), .val (.int (0 : Int32)), .val (.int sr)] [(.ref a1), (.int sr)])) _
        refine st4_7 _ ?_
        show Steps p.tables e below (T4_7.setTop (mkF m 56 #[.val (.ref a1), .val (.int p2), .val (.int (own_div p2 (4 : Int32))), .val (.int (own_rem p2 (4 : Int32))), .val (.ref b8_3), .val (.int (0 : Int32)), .val (.int sr)] [(.ref sa), (.int sr)])) _
        refine XS.iloadN X4_7.here hx rfl (hb hby d12_56) rfl ?_
        show Steps p.tables e below (T4_7.setTop (mkF m 57 #[.val (.ref a1), .val (.int p2), .val (.int (own_div p2 (4 : Int32))), .val (.int (own_rem p2 (4 : Int32))), .val (.ref b8_3), .val (.int (0 : Int32)), .val (.int sr)] [(.int (own_div p2 (4 : Int32))), (.ref sa), (.int sr)])) _
        refine XS.iconst X4_7.here hx rfl (hb hby d12_57) ?_
        show Steps p.tables e below (T4_7.setTop (mkF m 58 #[.val (.ref a1), .val (.int p2), .val (.int (own_div p2 (4 : Int32))), .val (.int (own_rem p2 (4 : Int32))), .val (.ref b8_3), .val (.int (0 : Int32)), .val (.int sr)] [(.int (1 : Int32)), (.int (own_div p2 (4 : Int32))), (.ref sa), (.int sr)])) _
        refine XS.iadd X4_7.here hx rfl (hb hby d12_58) rfl ?_
        show Steps p.tables e below (T4_7.setTop (mkF m 59 #[.val (.ref a1), .val (.int p2), .val (.int (own_div p2 (4 : Int32))), .val (.int (own_rem p2 (4 : Int32))), .val (.ref b8_3), .val (.int (0 : Int32)), .val (.int sr)] [(.int ((own_div p2 (4 : Int32)) + (1 : Int32))), (.ref sa), (.int sr)])) _
        refine X4_7.iaload hx (j := ((own_div p2 (4 : Int32)) + (1 : Int32))) (v := (.int er)) (by rw [e4_7]; exact As8.1) (State.isArrayOf_alike hZ.alike As8.2.1) As8.2.2 is1 as1 (g := (mkF m 59 #[.val (.ref a1), .val (.int p2), .val (.int (own_div p2 (4 : Int32))), .val (.int (own_rem p2 (4 : Int32))), .val (.ref b8_3), .val (.int (0 : Int32)), .val (.int sr)] [(.int ((own_div p2 (4 : Int32)) + (1 : Int32))), (.ref sa), (.int sr)])) rfl rfl (hb hby d12_59) _ ?_
        show Steps p.tables e below (T4_7.setTop (mkF m 60 #[.val (.ref a1), .val (.int p2), .val (.int (own_div p2 (4 : Int32))), .val (.int (own_rem p2 (4 : Int32))), .val (.ref b8_3), .val (.int (0 : Int32)), .val (.int sr)] [(.int er), (.int sr)])) _
        refine XS.icmpNo X4_7.here hx rfl (hb hby d12_60) rfl (tlt hc60_7).2.1 ?_
        show Steps p.tables e below (T4_7.setTop (mkF m 63 #[.val (.ref a1), .val (.int p2), .val (.int (own_div p2 (4 : Int32))), .val (.int (own_rem p2 (4 : Int32))), .val (.ref b8_3), .val (.int (0 : Int32)), .val (.int sr)] [])) _
        refine XS.aloadN X4_7.here hx rfl (hb hby d12_63) rfl rfl ?_
        show Steps p.tables e below (T4_7.setTop (mkF m 64 #[.val (.ref a1), .val (.int p2), .val (.int (own_div p2 (4 : Int32))), .val (.int (own_rem p2 (4 : Int32))), .val (.ref b8_3), .val (.int (0 : Int32)), .val (.int sr)] [(.ref a1)])) _
        refine st7_7 _ ?_
        show Steps p.tables e below (T7_7.setTop (mkF m 67 #[.val (.ref a1), .val (.int p2), .val (.int (own_div p2 (4 : Int32))), .val (.int (own_rem p2 (4 : Int32))), .val (.ref b8_3), .val (.int (0 : Int32)), .val (.int sr)] [(.ref rn)])) _
        refine XS.iconst X7_7.here hx rfl (hb hby d12_67) ?_
        show Steps p.tables e below (T7_7.setTop (mkF m 68 #[.val (.ref a1), .val (.int p2), .val (.int (own_div p2 (4 : Int32))), .val (.int (own_rem p2 (4 : Int32))), .val (.ref b8_3), .val (.int (0 : Int32)), .val (.int sr)] [(.int (3 : Int32)), (.ref rn)])) _
        refine XS.iload X7_7.here hx rfl (hb hby d12_68) rfl ?_
        show Steps p.tables e below (T7_7.setTop (mkF m 70 #[.val (.ref a1), .val (.int p2), .val (.int (own_div p2 (4 : Int32))), .val (.int (own_rem p2 (4 : Int32))), .val (.ref b8_3), .val (.int (0 : Int32)), .val (.int sr)] [(.int sr), (.int (3 : Int32)), (.ref rn)])) _
        refine XS.imul X7_7.here hx rfl (hb hby d12_70) rfl ?_
        show Steps p.tables e below (T7_7.setTop (mkF m 71 #[.val (.ref a1), .val (.int p2), .val (.int (own_div p2 (4 : Int32))), .val (.int (own_rem p2 (4 : Int32))), .val (.ref b8_3), .val (.int (0 : Int32)), .val (.int sr)] [(.int ((3 : Int32) * sr)), (.ref rn)])) _
        refine X7_7.iaload hx (j := ((3 : Int32) * sr)) (v := (.int c')) (by rw [e7_7]; exact Ar8.1) (State.isArrayOf_alike hZ.alike Ar8.2.1) Ar8.2.2 ir0 ar0 (g := (mkF m 71 #[.val (.ref a1), .val (.int p2), .val (.int (own_div p2 (4 : Int32))), .val (.int (own_rem p2 (4 : Int32))), .val (.ref b8_3), .val (.int (0 : Int32)), .val (.int sr)] [(.int ((3 : Int32) * sr)), (.ref rn)])) rfl rfl (hb hby d12_71) _ ?_
        show Steps p.tables e below (T7_7.setTop (mkF m 72 #[.val (.ref a1), .val (.int p2), .val (.int (own_div p2 (4 : Int32))), .val (.int (own_rem p2 (4 : Int32))), .val (.ref b8_3), .val (.int (0 : Int32)), .val (.int sr)] [(.int c')])) _
        refine XS.iloadN X7_7.here hx rfl (hb hby d12_72) rfl ?_
        show Steps p.tables e below (T7_7.setTop (mkF m 73 #[.val (.ref a1), .val (.int p2), .val (.int (own_div p2 (4 : Int32))), .val (.int (own_rem p2 (4 : Int32))), .val (.ref b8_3), .val (.int (0 : Int32)), .val (.int sr)] [(.int (own_rem p2 (4 : Int32))), (.int c')])) _
        refine XS.icmpNo X7_7.here hx rfl (hb hby d12_73) rfl (flt hc73_7).2.2.1 ?_
        show Steps p.tables e below (T7_7.setTop (mkF m 76 #[.val (.ref a1), .val (.int p2), .val (.int (own_div p2 (4 : Int32))), .val (.int (own_rem p2 (4 : Int32))), .val (.ref b8_3), .val (.int (0 : Int32)), .val (.int sr)] [])) _
        refine XS.iloadN X7_7.here hx rfl (hb hby d12_76) rfl ?_
        show Steps p.tables e below (T7_7.setTop (mkF m 77 #[.val (.ref a1), .val (.int p2), .val (.int (own_div p2 (4 : Int32))), .val (.int (own_rem p2 (4 : Int32))), .val (.ref b8_3), .val (.int (0 : Int32)), .val (.int sr)] [(.int (own_rem p2 (4 : Int32)))])) _
        refine XS.aloadN X7_7.here hx rfl (hb hby d12_77) rfl rfl ?_
        show Steps p.tables e below (T7_7.setTop (mkF m 78 #[.val (.ref a1), .val (.int p2), .val (.int (own_div p2 (4 : Int32))), .val (.int (own_rem p2 (4 : Int32))), .val (.ref b8_3), .val (.int (0 : Int32)), .val (.int sr)] [(.ref a1), (.int (own_rem p2 (4 : Int32)))])) _
        refine st9_7 _ ?_
        show Steps p.tables e below (T9_7.setTop (mkF m 81 #[.val (.ref a1), .val (.int p2), .val (.int (own_div p2 (4 : Int32))), .val (.int (own_rem p2 (4 : Int32))), .val (.ref b8_3), .val (.int (0 : Int32)), .val (.int sr)] [(.ref rn), (.int (own_rem p2 (4 : Int32)))])) _
        refine XS.iconst X9_7.here hx rfl (hb hby d12_81) ?_
        show Steps p.tables e below (T9_7.setTop (mkF m 82 #[.val (.ref a1), .val (.int p2), .val (.int (own_div p2 (4 : Int32))), .val (.int (own_rem p2 (4 : Int32))), .val (.ref b8_3), .val (.int (0 : Int32)), .val (.int sr)] [(.int (3 : Int32)), (.ref rn), (.int (own_rem p2 (4 : Int32)))])) _
        refine XS.iload X9_7.here hx rfl (hb hby d12_82) rfl ?_
        show Steps p.tables e below (T9_7.setTop (mkF m 84 #[.val (.ref a1), .val (.int p2), .val (.int (own_div p2 (4 : Int32))), .val (.int (own_rem p2 (4 : Int32))), .val (.ref b8_3), .val (.int (0 : Int32)), .val (.int sr)] [(.int sr), (.int (3 : Int32)), (.ref rn), (.int (own_rem p2 (4 : Int32)))])) _
        refine XS.imul X9_7.here hx rfl (hb hby d12_84) rfl ?_
        show Steps p.tables e below (T9_7.setTop (mkF m 85 #[.val (.ref a1), .val (.int p2), .val (.int (own_div p2 (4 : Int32))), .val (.int (own_rem p2 (4 : Int32))), .val (.ref b8_3), .val (.int (0 : Int32)), .val (.int sr)] [(.int ((3 : Int32) * sr)), (.ref rn), (.int (own_rem p2 (4 : Int32)))])) _
        refine XS.iconst X9_7.here hx rfl (hb hby d12_85) ?_
        show Steps p.tables e below (T9_7.setTop (mkF m 86 #[.val (.ref a1), .val (.int p2), .val (.int (own_div p2 (4 : Int32))), .val (.int (own_rem p2 (4 : Int32))), .val (.ref b8_3), .val (.int (0 : Int32)), .val (.int sr)] [(.int (1 : Int32)), (.int ((3 : Int32) * sr)), (.ref rn), (.int (own_rem p2 (4 : Int32)))])) _
        refine XS.iadd X9_7.here hx rfl (hb hby d12_86) rfl ?_
        show Steps p.tables e below (T9_7.setTop (mkF m 87 #[.val (.ref a1), .val (.int p2), .val (.int (own_div p2 (4 : Int32))), .val (.int (own_rem p2 (4 : Int32))), .val (.ref b8_3), .val (.int (0 : Int32)), .val (.int sr)] [(.int (((3 : Int32) * sr) + (1 : Int32))), (.ref rn), (.int (own_rem p2 (4 : Int32)))])) _
        refine X9_7.iaload hx (j := (((3 : Int32) * sr) + (1 : Int32))) (v := (.int d')) (by rw [e9_7]; exact Ar8.1) (State.isArrayOf_alike hZ.alike Ar8.2.1) Ar8.2.2 ir1 ar1 (g := (mkF m 87 #[.val (.ref a1), .val (.int p2), .val (.int (own_div p2 (4 : Int32))), .val (.int (own_rem p2 (4 : Int32))), .val (.ref b8_3), .val (.int (0 : Int32)), .val (.int sr)] [(.int (((3 : Int32) * sr) + (1 : Int32))), (.ref rn), (.int (own_rem p2 (4 : Int32)))])) rfl rfl (hb hby d12_87) _ ?_
        show Steps p.tables e below (T9_7.setTop (mkF m 88 #[.val (.ref a1), .val (.int p2), .val (.int (own_div p2 (4 : Int32))), .val (.int (own_rem p2 (4 : Int32))), .val (.ref b8_3), .val (.int (0 : Int32)), .val (.int sr)] [(.int d'), (.int (own_rem p2 (4 : Int32)))])) _
        refine XS.icmpNo X9_7.here hx rfl (hb hby d12_88) rfl (tlt hc88_7).2.1 ?_
        show Steps p.tables e below (T9_7.setTop (mkF m 91 #[.val (.ref a1), .val (.int p2), .val (.int (own_div p2 (4 : Int32))), .val (.int (own_rem p2 (4 : Int32))), .val (.ref b8_3), .val (.int (0 : Int32)), .val (.int sr)] [])) _
        refine XS.aload X9_7.here hx rfl (hb hby d12_91) rfl rfl ?_
        show Steps p.tables e below (T9_7.setTop (mkF m 93 #[.val (.ref a1), .val (.int p2), .val (.int (own_div p2 (4 : Int32))), .val (.int (own_rem p2 (4 : Int32))), .val (.ref b8_3), .val (.int (0 : Int32)), .val (.int sr)] [(.ref b8_3)])) _
        refine XS.iload X9_7.here hx rfl (hb hby d12_93) rfl ?_
        show Steps p.tables e below (T9_7.setTop (mkF m 95 #[.val (.ref a1), .val (.int p2), .val (.int (own_div p2 (4 : Int32))), .val (.int (own_rem p2 (4 : Int32))), .val (.ref b8_3), .val (.int (0 : Int32)), .val (.int sr)] [(.int (0 : Int32)), (.ref b8_3)])) _
        refine XS.aloadN X9_7.here hx rfl (hb hby d12_95) rfl rfl ?_
        show Steps p.tables e below (T9_7.setTop (mkF m 96 #[.val (.ref a1), .val (.int p2), .val (.int (own_div p2 (4 : Int32))), .val (.int (own_rem p2 (4 : Int32))), .val (.ref b8_3), .val (.int (0 : Int32)), .val (.int sr)] [(.ref a1), (.int (0 : Int32)), (.ref b8_3)])) _
        refine st11_7 _ ?_
        show Steps p.tables e below (T11_7.setTop (mkF m 99 #[.val (.ref a1), .val (.int p2), .val (.int (own_div p2 (4 : Int32))), .val (.int (own_rem p2 (4 : Int32))), .val (.ref b8_3), .val (.int (0 : Int32)), .val (.int sr)] [(.ref rn), (.int (0 : Int32)), (.ref b8_3)])) _
        refine XS.iconst X11_7.here hx rfl (hb hby d12_99) ?_
        show Steps p.tables e below (T11_7.setTop (mkF m 100 #[.val (.ref a1), .val (.int p2), .val (.int (own_div p2 (4 : Int32))), .val (.int (own_rem p2 (4 : Int32))), .val (.ref b8_3), .val (.int (0 : Int32)), .val (.int sr)] [(.int (3 : Int32)), (.ref rn), (.int (0 : Int32)), (.ref b8_3)])) _
        refine XS.iload X11_7.here hx rfl (hb hby d12_100) rfl ?_
        show Steps p.tables e below (T11_7.setTop (mkF m 102 #[.val (.ref a1), .val (.int p2), .val (.int (own_div p2 (4 : Int32))), .val (.int (own_rem p2 (4 : Int32))), .val (.ref b8_3), .val (.int (0 : Int32)), .val (.int sr)] [(.int sr), (.int (3 : Int32)), (.ref rn), (.int (0 : Int32)), (.ref b8_3)])) _
        refine XS.imul X11_7.here hx rfl (hb hby d12_102) rfl ?_
        show Steps p.tables e below (T11_7.setTop (mkF m 103 #[.val (.ref a1), .val (.int p2), .val (.int (own_div p2 (4 : Int32))), .val (.int (own_rem p2 (4 : Int32))), .val (.ref b8_3), .val (.int (0 : Int32)), .val (.int sr)] [(.int ((3 : Int32) * sr)), (.ref rn), (.int (0 : Int32)), (.ref b8_3)])) _
        refine XS.iconst X11_7.here hx rfl (hb hby d12_103) ?_
        show Steps p.tables e below (T11_7.setTop (mkF m 104 #[.val (.ref a1), .val (.int p2), .val (.int (own_div p2 (4 : Int32))), .val (.int (own_rem p2 (4 : Int32))), .val (.ref b8_3), .val (.int (0 : Int32)), .val (.int sr)] [(.int (2 : Int32)), (.int ((3 : Int32) * sr)), (.ref rn), (.int (0 : Int32)), (.ref b8_3)])) _
        refine XS.iadd X11_7.here hx rfl (hb hby d12_104) rfl ?_
        show Steps p.tables e below (T11_7.setTop (mkF m 105 #[.val (.ref a1), .val (.int p2), .val (.int (own_div p2 (4 : Int32))), .val (.int (own_rem p2 (4 : Int32))), .val (.ref b8_3), .val (.int (0 : Int32)), .val (.int sr)] [(.int (((3 : Int32) * sr) + (2 : Int32))), (.ref rn), (.int (0 : Int32)), (.ref b8_3)])) _
        refine X11_7.iaload hx (j := (((3 : Int32) * sr) + (2 : Int32))) (v := (.int pp)) (by rw [e11_7]; exact Ar8.1) (State.isArrayOf_alike hZ.alike Ar8.2.1) Ar8.2.2 ir2 ar2 (g := (mkF m 105 #[.val (.ref a1), .val (.int p2), .val (.int (own_div p2 (4 : Int32))), .val (.int (own_rem p2 (4 : Int32))), .val (.ref b8_3), .val (.int (0 : Int32)), .val (.int sr)] [(.int (((3 : Int32) * sr) + (2 : Int32))), (.ref rn), (.int (0 : Int32)), (.ref b8_3)])) rfl rfl (hb hby d12_105) _ ?_
        show Steps p.tables e below (T11_7.setTop (mkF m 106 #[.val (.ref a1), .val (.int p2), .val (.int (own_div p2 (4 : Int32))), .val (.int (own_rem p2 (4 : Int32))), .val (.ref b8_3), .val (.int (0 : Int32)), .val (.int sr)] [(.int pp), (.int (0 : Int32)), (.ref b8_3)])) _
        refine st13_7 _ ?_
        show Steps p.tables e below (T13_7.setTop (mkF m 107 #[.val (.ref a1), .val (.int p2), .val (.int (own_div p2 (4 : Int32))), .val (.int (own_rem p2 (4 : Int32))), .val (.ref b8_3), .val (.int (0 : Int32)), .val (.int sr)] [])) _
        refine XS.iinc X13_7.here hx rfl (hb hby d12_107) rfl (l' := #[.val (.ref a1), .val (.int p2), .val (.int (own_div p2 (4 : Int32))), .val (.int (own_rem p2 (4 : Int32))), .val (.ref b8_3), .val (.int ((0 : Int32) + (1 : Int32))), .val (.int sr)]) rfl ?_
        show Steps p.tables e below (T13_7.setTop (mkF m 110 #[.val (.ref a1), .val (.int p2), .val (.int (own_div p2 (4 : Int32))), .val (.int (own_rem p2 (4 : Int32))), .val (.ref b8_3), .val (.int ((0 : Int32) + (1 : Int32))), .val (.int sr)] [])) _
        refine XS.iinc X13_7.here hx rfl (hb hby d12_110) rfl (l' := #[.val (.ref a1), .val (.int p2), .val (.int (own_div p2 (4 : Int32))), .val (.int (own_rem p2 (4 : Int32))), .val (.ref b8_3), .val (.int ((0 : Int32) + (1 : Int32))), .val (.int (sr + (1 : Int32)))]) rfl ?_
        show Steps p.tables e below (T13_7.setTop (mkF m 113 #[.val (.ref a1), .val (.int p2), .val (.int (own_div p2 (4 : Int32))), .val (.int (own_rem p2 (4 : Int32))), .val (.ref b8_3), .val (.int ((0 : Int32) + (1 : Int32))), .val (.int (sr + (1 : Int32)))] [])) _
        refine XS.goto X13_7.here hx rfl (pc0 := 113) (pc' := 50) rfl (hb hby d12_113) (by decide) (by decide) ?_
        exact kt
      have V13 : Arv Z h13_7 b8_3 k8_3 .int (1 : Int32) [.int pp] (.int 0) := Arv.set Ao qo So Mo Ho Go rfl W13_7 0 (by decide) (by decide)
      have Z13 : n0 ≤ h13_7.size := Nat.le_trans Z8 K13_7.1
      have hc60_8 : ¬ ((sr + (1 : Int32)) < er) := hend
      obtain ⟨T4_8, X4_8, e4_8, st4_8⟩ := getF X13_7 hx hZ hown (host := "") (Or.inl (hw _ (List.mem_of_getElem? (i := 86) rfl))) Via.refl e13_7 (Fst8.other W13_7 (Or.inl nea)) (g := (mkF m 53 #[.val (.ref a1), .val (.int p2), .val (.int (own_div p2 (4 : Int32))), .val (.int (own_rem p2 (4 : Int32))), .val (.ref b8_3), .val (.int ((0 : Int32) + (1 : Int32))), .val (.int (sr + (1 : Int32)))] [(.ref a1), (.int (sr + (1 : Int32)))])) rfl rfl (hb hby d12_53)
      have st_8p : ∀ target, Steps p.tables e below (T4_8.setTop (mkF m 116 #[.val (.ref a1), .val (.int p2), .val (.int (own_div p2 (4 : Int32))), .val (.int (own_rem p2 (4 : Int32))), .val (.ref b8_3), .val (.int ((0 : Int32) + (1 : Int32))), .val (.int (sr + (1 : Int32)))] [])) target → Steps p.tables e below (T13_7.setTop (mkF m 50 #[.val (.ref a1), .val (.int p2), .val (.int (own_div p2 (4 : Int32))), .val (.int (own_rem p2 (4 : Int32))), .val (.ref b8_3), .val (.int ((0 : Int32) + (1 : Int32))), .val (.int (sr + (1 : Int32)))] [])) target := by
        intro target kt
        show Steps p.tables e below (T13_7.setTop (mkF m 50 #[.val (.ref a1), .val (.int p2), .val (.int (own_div p2 (4 : Int32))), .val (.int (own_rem p2 (4 : Int32))), .val (.ref b8_3), .val (.int ((0 : Int32) + (1 : Int32))), .val (.int (sr + (1 : Int32)))] [])) _
        refine XS.iload X13_7.here hx rfl (hb hby d12_50) rfl ?_
        show Steps p.tables e below (T13_7.setTop (mkF m 52 #[.val (.ref a1), .val (.int p2), .val (.int (own_div p2 (4 : Int32))), .val (.int (own_rem p2 (4 : Int32))), .val (.ref b8_3), .val (.int ((0 : Int32) + (1 : Int32))), .val (.int (sr + (1 : Int32)))] [(.int (sr + (1 : Int32)))])) _
        refine XS.aloadN X13_7.here hx rfl (hb hby d12_52) rfl rfl ?_
        show Steps p.tables e below (T13_7.setTop (mkF m 53 #[.val (.ref a1), .val (.int p2), .val (.int (own_div p2 (4 : Int32))), .val (.int (own_rem p2 (4 : Int32))), .val (.ref b8_3), .val (.int ((0 : Int32) + (1 : Int32))), .val (.int (sr + (1 : Int32)))] [(.ref a1), (.int (sr + (1 : Int32)))])) _
        refine st4_8 _ ?_
        show Steps p.tables e below (T4_8.setTop (mkF m 56 #[.val (.ref a1), .val (.int p2), .val (.int (own_div p2 (4 : Int32))), .val (.int (own_rem p2 (4 : Int32))), .val (.ref b8_3), .val (.int ((0 : Int32) + (1 : Int32))), .val (.int (sr + (1 : Int32)))] [(.ref sa), (.int (sr + (1 : Int32)))])) _
        refine XS.iloadN X4_8.here hx rfl (hb hby d12_56) rfl ?_
        show Steps p.tables e below (T4_8.setTop (mkF m 57 #[.val (.ref a1), .val (.int p2), .val (.int (own_div p2 (4 : Int32))), .val (.int (own_rem p2 (4 : Int32))), .val (.ref b8_3), .val (.int ((0 : Int32) + (1 : Int32))), .val (.int (sr + (1 : Int32)))] [(.int (own_div p2 (4 : Int32))), (.ref sa), (.int (sr + (1 : Int32)))])) _
        refine XS.iconst X4_8.here hx rfl (hb hby d12_57) ?_
        show Steps p.tables e below (T4_8.setTop (mkF m 58 #[.val (.ref a1), .val (.int p2), .val (.int (own_div p2 (4 : Int32))), .val (.int (own_rem p2 (4 : Int32))), .val (.ref b8_3), .val (.int ((0 : Int32) + (1 : Int32))), .val (.int (sr + (1 : Int32)))] [(.int (1 : Int32)), (.int (own_div p2 (4 : Int32))), (.ref sa), (.int (sr + (1 : Int32)))])) _
        refine XS.iadd X4_8.here hx rfl (hb hby d12_58) rfl ?_
        show Steps p.tables e below (T4_8.setTop (mkF m 59 #[.val (.ref a1), .val (.int p2), .val (.int (own_div p2 (4 : Int32))), .val (.int (own_rem p2 (4 : Int32))), .val (.ref b8_3), .val (.int ((0 : Int32) + (1 : Int32))), .val (.int (sr + (1 : Int32)))] [(.int ((own_div p2 (4 : Int32)) + (1 : Int32))), (.ref sa), (.int (sr + (1 : Int32)))])) _
        refine X4_8.iaload hx (j := ((own_div p2 (4 : Int32)) + (1 : Int32))) (v := (.int er)) (by rw [e4_8]; exact (As8.other W13_7 nes).1) (State.isArrayOf_alike hZ.alike (As8.other W13_7 nes).2.1) (As8.other W13_7 nes).2.2 is1 as1 (g := (mkF m 59 #[.val (.ref a1), .val (.int p2), .val (.int (own_div p2 (4 : Int32))), .val (.int (own_rem p2 (4 : Int32))), .val (.ref b8_3), .val (.int ((0 : Int32) + (1 : Int32))), .val (.int (sr + (1 : Int32)))] [(.int ((own_div p2 (4 : Int32)) + (1 : Int32))), (.ref sa), (.int (sr + (1 : Int32)))])) rfl rfl (hb hby d12_59) _ ?_
        show Steps p.tables e below (T4_8.setTop (mkF m 60 #[.val (.ref a1), .val (.int p2), .val (.int (own_div p2 (4 : Int32))), .val (.int (own_rem p2 (4 : Int32))), .val (.ref b8_3), .val (.int ((0 : Int32) + (1 : Int32))), .val (.int (sr + (1 : Int32)))] [(.int er), (.int (sr + (1 : Int32)))])) _
        refine XS.icmpYes X4_8.here hx rfl (pc0 := 60) (pc' := 116) rfl (hb hby d12_60) rfl (flt hc60_8).2.1 (by decide) (by decide) ?_
        exact kt
      obtain ⟨_, _, ⟨T3_9, L3_9, k3_9, n3_9⟩, -, X3_9, ⟨Lc3_9, hQ3_9, l3_9, y3_9, z3_9⟩, st3_9⟩ := Jvm.LawKit.callS X4_8 hx (y := (⟨"java/util/Arrays", "copyOf", "([II)[I"⟩ : MethodName)) hown (mvT hZ (hw _ (List.mem_of_getElem? (i := 100) rfl))) (mvT hZ (hw _ (List.mem_of_getElem? (i := 70) rfl))) (mvT hZ (hw _ (List.mem_of_getElem? (i := 50) rfl))) (mvT hZ (hw _ (List.mem_of_getElem? (i := 71) rfl))) (by decide) (backOf (W := 0) (rm9c l Z a0 hw [] b8_3 ((0 : Int32) + (1 : Int32)) k8_3 (1 : Int32) [.int pp] h13_7 n0 Z13 V13 (EX.wr W13_7) (by decide) (by decide)) hZ (hw _ (List.mem_of_getElem? (i := 71) rfl)) (hw _ (List.mem_of_getElem? (i := 50) rfl)) (by decide) (by decide)) (g := (mkF m 120 #[.val (.ref a1), .val (.int p2), .val (.int (own_div p2 (4 : Int32))), .val (.int (own_rem p2 (4 : Int32))), .val (.ref b8_3), .val (.int ((0 : Int32) + (1 : Int32))), .val (.int (sr + (1 : Int32)))] [(.int ((0 : Int32) + (1 : Int32))), (.ref b8_3)])) rfl (by rw [hml]; rfl) (argsL := [(.ref b8_3), (.int ((0 : Int32) + (1 : Int32)))]) (rest := []) (lenOf pd_6 rfl) rfl (by show 2 * 0 + _ ≤ _; exact Nat.le_of_eq rfl) (hb hby d12_120) (fun _ _ => ⟨rfl, e4_8, (by decide : 0 + 1 + 1 ≤ _), (by decide : 0 + 1 + 6 ≤ _)⟩)
      dsimp only [Pt.U, Pt.locs, Pt.cells, Pt.slots] at X3_9 l3_9 y3_9 z3_9 st3_9 hQ3_9
      subst l3_9 y3_9 z3_9
      obtain ⟨rfl, N3q_9, K9_9, V9_9⟩ := hQ3_9
      have N3_9 := Fr.app N13_7 N3q_9
      have st_9p : ∀ target, Steps p.tables e below (T3_9.setTop (mkF m 123 #[.val (.ref a1), .val (.int p2), .val (.int (own_div p2 (4 : Int32))), .val (.int (own_rem p2 (4 : Int32))), .val (.ref b8_3), .val (.int ((0 : Int32) + (1 : Int32))), .val (.int (sr + (1 : Int32)))] [(.ref h13_7.size)])) target → Steps p.tables e below (T4_8.setTop (mkF m 116 #[.val (.ref a1), .val (.int p2), .val (.int (own_div p2 (4 : Int32))), .val (.int (own_rem p2 (4 : Int32))), .val (.ref b8_3), .val (.int ((0 : Int32) + (1 : Int32))), .val (.int (sr + (1 : Int32)))] [])) target := by
        intro target kt
        show Steps p.tables e below (T4_8.setTop (mkF m 116 #[.val (.ref a1), .val (.int p2), .val (.int (own_div p2 (4 : Int32))), .val (.int (own_rem p2 (4 : Int32))), .val (.ref b8_3), .val (.int ((0 : Int32) + (1 : Int32))), .val (.int (sr + (1 : Int32)))] [])) _
        refine XS.aload X4_8.here hx rfl (hb hby d12_116) rfl rfl ?_
        show Steps p.tables e below (T4_8.setTop (mkF m 118 #[.val (.ref a1), .val (.int p2), .val (.int (own_div p2 (4 : Int32))), .val (.int (own_rem p2 (4 : Int32))), .val (.ref b8_3), .val (.int ((0 : Int32) + (1 : Int32))), .val (.int (sr + (1 : Int32)))] [(.ref b8_3)])) _
        refine XS.iload X4_8.here hx rfl (hb hby d12_118) rfl ?_
        show Steps p.tables e below (T4_8.setTop (mkF m 120 #[.val (.ref a1), .val (.int p2), .val (.int (own_div p2 (4 : Int32))), .val (.int (own_rem p2 (4 : Int32))), .val (.ref b8_3), .val (.int ((0 : Int32) + (1 : Int32))), .val (.int (sr + (1 : Int32)))] [(.int ((0 : Int32) + (1 : Int32))), (.ref b8_3)])) _
        refine st3_9 _ ?_
        exact kt
      obtain ⟨fs, hr, hrun, hended, hW, hsame⟩ := X3_9.leave (v := some (.ref h13_7.size)) (fun h => by rw [Bd.returns] at h; cases h)
      refine ⟨_, _, pre0 _ ?_, hrun, hended, _, _, rfl, ?_, ⟨_, rfl⟩, hW, hsame.mono (by decide) (by decide)⟩
      · show Steps p.tables e below (s₁.setTop (mkF m 0 #[.val (.ref a1), .val (.int p2), .unset, .unset, .unset, .unset, .unset] [])) _
        refine st_1p _ ?_
        refine st_2p _ ?_
        refine st_3p _ ?_
        refine st_4p _ ?_
        refine st_7p _ ?_
        refine st_8p _ ?_
        refine st_9p _ ?_
        jvm_step X3_9.here [X3_9.here.top, hx, (hb hby d12_123), X3_9.method', Bd.returns, Value.isRef, FieldType.isReference]
        first | (intro acts; rw [hr _ acts rfl rfl rfl]) | rw [hr _ _ rfl rfl rfl]
        exact Steps.refl _
      · show Q12 Z a1 p2 la sa rn z sr er (1 : Int32) rs ss [.int pp] h0 n0 _ T3_9.heap _
        exact ⟨_, _, rfl, N3_9, (K8_3.trans K13_7 (allS (Or.inr sz_b8_3) all0)).trans K9_9 all0, V9_9⟩
    · by_cases hc1 : (own_rem p2 (4 : Int32)) < c'
      · have hc60_10 : sr < er := hlt
        have hc73_10 : (own_rem p2 (4 : Int32)) < c' := hc1
        obtain ⟨T4_10, X4_10, e4_10, st4_10⟩ := getF X4_4 hx hZ hown (host := "") (Or.inl (hw _ (List.mem_of_getElem? (i := 86) rfl))) Via.refl e4_4 Fst8 (g := (mkF m 53 #[.val (.ref a1), .val (.int p2), .val (.int (own_div p2 (4 : Int32))), .val (.int (own_rem p2 (4 : Int32))), .val (.ref b8_3), .val (.int (0 : Int32)), .val (.int sr)] [(.ref a1), (.int sr)])) rfl rfl (hb hby d12_53)
        obtain ⟨T7_10, X7_10, e7_10, st7_10⟩ := getF X4_10 hx hZ hown (host := "") (Or.inl (hw _ (List.mem_of_getElem? (i := 88) rfl))) Via.refl e4_10 Fru8 (g := (mkF m 64 #[.val (.ref a1), .val (.int p2), .val (.int (own_div p2 (4 : Int32))), .val (.int (own_rem p2 (4 : Int32))), .val (.ref b8_3), .val (.int (0 : Int32)), .val (.int sr)] [(.ref a1)])) rfl rfl (hb hby d12_64)
        have st_10p : ∀ target, Steps p.tables e below (T7_10.setTop (mkF m 116 #[.val (.ref a1), .val (.int p2), .val (.int (own_div p2 (4 : Int32))), .val (.int (own_rem p2 (4 : Int32))), .val (.ref b8_3), .val (.int (0 : Int32)), .val (.int sr)] [])) target → Steps p.tables e below (T4_4.setTop (mkF m 50 #[.val (.ref a1), .val (.int p2), .val (.int (own_div p2 (4 : Int32))), .val (.int (own_rem p2 (4 : Int32))), .val (.ref b8_3), .val (.int (0 : Int32)), .val (.int sr)] [])) target := by
          intro target kt
          show Steps p.tables e below (T4_4.setTop (mkF m 50 #[.val (.ref a1), .val (.int p2), .val (.int (own_div p2 (4 : Int32))), .val (.int (own_rem p2 (4 : Int32))), .val (.ref b8_3), .val (.int (0 : Int32)), .val (.int sr)] [])) _
          refine XS.iload X4_4.here hx rfl (hb hby d12_50) rfl ?_
          show Steps p.tables e below (T4_4.setTop (mkF m 52 #[.val (.ref a1), .val (.int p2), .val (.int (own_div p2 (4 : Int32))), .val (.int (own_rem p2 (4 : Int32))), .val (.ref b8_3), .val (.int (0 : Int32)), .val (.int sr)] [(.int sr)])) _
          refine XS.aloadN X4_4.here hx rfl (hb hby d12_52) rfl rfl ?_
          show Steps p.tables e below (T4_4.setTop (mkF m 53 #[.val (.ref a1), .val (.int p2), .val (.int (own_div p2 (4 : Int32))), .val (.int (own_rem p2 (4 : Int32))), .val (.ref b8_3), .val (.int (0 : Int32)), .val (.int sr)] [(.ref a1), (.int sr)])) _
          refine st4_10 _ ?_
          show Steps p.tables e below (T4_10.setTop (mkF m 56 #[.val (.ref a1), .val (.int p2), .val (.int (own_div p2 (4 : Int32))), .val (.int (own_rem p2 (4 : Int32))), .val (.ref b8_3), .val (.int (0 : Int32)), .val (.int sr)] [(.ref sa), (.int sr)])) _
          refine XS.iloadN X4_10.here hx rfl (hb hby d12_56) rfl ?_
          show Steps p.tables e below (T4_10.setTop (mkF m 57 #[.val (.ref a1), .val (.int p2), .val (.int (own_div p2 (4 : Int32))), .val (.int (own_rem p2 (4 : Int32))), .val (.ref b8_3), .val (.int (0 : Int32)), .val (.int sr)] [(.int (own_div p2 (4 : Int32))), (.ref sa), (.int sr)])) _
          refine XS.iconst X4_10.here hx rfl (hb hby d12_57) ?_
          show Steps p.tables e below (T4_10.setTop (mkF m 58 #[.val (.ref a1), .val (.int p2), .val (.int (own_div p2 (4 : Int32))), .val (.int (own_rem p2 (4 : Int32))), .val (.ref b8_3), .val (.int (0 : Int32)), .val (.int sr)] [(.int (1 : Int32)), (.int (own_div p2 (4 : Int32))), (.ref sa), (.int sr)])) _
          refine XS.iadd X4_10.here hx rfl (hb hby d12_58) rfl ?_
          show Steps p.tables e below (T4_10.setTop (mkF m 59 #[.val (.ref a1), .val (.int p2), .val (.int (own_div p2 (4 : Int32))), .val (.int (own_rem p2 (4 : Int32))), .val (.ref b8_3), .val (.int (0 : Int32)), .val (.int sr)] [(.int ((own_div p2 (4 : Int32)) + (1 : Int32))), (.ref sa), (.int sr)])) _
          refine X4_10.iaload hx (j := ((own_div p2 (4 : Int32)) + (1 : Int32))) (v := (.int er)) (by rw [e4_10]; exact As8.1) (State.isArrayOf_alike hZ.alike As8.2.1) As8.2.2 is1 as1 (g := (mkF m 59 #[.val (.ref a1), .val (.int p2), .val (.int (own_div p2 (4 : Int32))), .val (.int (own_rem p2 (4 : Int32))), .val (.ref b8_3), .val (.int (0 : Int32)), .val (.int sr)] [(.int ((own_div p2 (4 : Int32)) + (1 : Int32))), (.ref sa), (.int sr)])) rfl rfl (hb hby d12_59) _ ?_
          show Steps p.tables e below (T4_10.setTop (mkF m 60 #[.val (.ref a1), .val (.int p2), .val (.int (own_div p2 (4 : Int32))), .val (.int (own_rem p2 (4 : Int32))), .val (.ref b8_3), .val (.int (0 : Int32)), .val (.int sr)] [(.int er), (.int sr)])) _
          refine XS.icmpNo X4_10.here hx rfl (hb hby d12_60) rfl (tlt hc60_10).2.1 ?_
          show Steps p.tables e below (T4_10.setTop (mkF m 63 #[.val (.ref a1), .val (.int p2), .val (.int (own_div p2 (4 : Int32))), .val (.int (own_rem p2 (4 : Int32))), .val (.ref b8_3), .val (.int (0 : Int32)), .val (.int sr)] [])) _
          refine XS.aloadN X4_10.here hx rfl (hb hby d12_63) rfl rfl ?_
          show Steps p.tables e below (T4_10.setTop (mkF m 64 #[.val (.ref a1), .val (.int p2), .val (.int (own_div p2 (4 : Int32))), .val (.int (own_rem p2 (4 : Int32))), .val (.ref b8_3), .val (.int (0 : Int32)), .val (.int sr)] [(.ref a1)])) _
          refine st7_10 _ ?_
          show Steps p.tables e below (T7_10.setTop (mkF m 67 #[.val (.ref a1), .val (.int p2), .val (.int (own_div p2 (4 : Int32))), .val (.int (own_rem p2 (4 : Int32))), .val (.ref b8_3), .val (.int (0 : Int32)), .val (.int sr)] [(.ref rn)])) _
          refine XS.iconst X7_10.here hx rfl (hb hby d12_67) ?_
          show Steps p.tables e below (T7_10.setTop (mkF m 68 #[.val (.ref a1), .val (.int p2), .val (.int (own_div p2 (4 : Int32))), .val (.int (own_rem p2 (4 : Int32))), .val (.ref b8_3), .val (.int (0 : Int32)), .val (.int sr)] [(.int (3 : Int32)), (.ref rn)])) _
          refine XS.iload X7_10.here hx rfl (hb hby d12_68) rfl ?_
          show Steps p.tables e below (T7_10.setTop (mkF m 70 #[.val (.ref a1), .val (.int p2), .val (.int (own_div p2 (4 : Int32))), .val (.int (own_rem p2 (4 : Int32))), .val (.ref b8_3), .val (.int (0 : Int32)), .val (.int sr)] [(.int sr), (.int (3 : Int32)), (.ref rn)])) _
          refine XS.imul X7_10.here hx rfl (hb hby d12_70) rfl ?_
          show Steps p.tables e below (T7_10.setTop (mkF m 71 #[.val (.ref a1), .val (.int p2), .val (.int (own_div p2 (4 : Int32))), .val (.int (own_rem p2 (4 : Int32))), .val (.ref b8_3), .val (.int (0 : Int32)), .val (.int sr)] [(.int ((3 : Int32) * sr)), (.ref rn)])) _
          refine X7_10.iaload hx (j := ((3 : Int32) * sr)) (v := (.int c')) (by rw [e7_10]; exact Ar8.1) (State.isArrayOf_alike hZ.alike Ar8.2.1) Ar8.2.2 ir0 ar0 (g := (mkF m 71 #[.val (.ref a1), .val (.int p2), .val (.int (own_div p2 (4 : Int32))), .val (.int (own_rem p2 (4 : Int32))), .val (.ref b8_3), .val (.int (0 : Int32)), .val (.int sr)] [(.int ((3 : Int32) * sr)), (.ref rn)])) rfl rfl (hb hby d12_71) _ ?_
          show Steps p.tables e below (T7_10.setTop (mkF m 72 #[.val (.ref a1), .val (.int p2), .val (.int (own_div p2 (4 : Int32))), .val (.int (own_rem p2 (4 : Int32))), .val (.ref b8_3), .val (.int (0 : Int32)), .val (.int sr)] [(.int c')])) _
          refine XS.iloadN X7_10.here hx rfl (hb hby d12_72) rfl ?_
          show Steps p.tables e below (T7_10.setTop (mkF m 73 #[.val (.ref a1), .val (.int p2), .val (.int (own_div p2 (4 : Int32))), .val (.int (own_rem p2 (4 : Int32))), .val (.ref b8_3), .val (.int (0 : Int32)), .val (.int sr)] [(.int (own_rem p2 (4 : Int32))), (.int c')])) _
          refine XS.icmpYes X7_10.here hx rfl (pc0 := 73) (pc' := 116) rfl (hb hby d12_73) rfl (tlt hc73_10).2.2.1 (by decide) (by decide) ?_
          exact kt
        have hne0 : ¬ (0 : Int32) = er - sr := by rw [h1]; decide
        have hlt0 : (0 : Int32) < er - sr := by rw [h1]; decide
        obtain ⟨_, _, ⟨T3_11, L3_11, k3_11, n3_11⟩, -, X3_11, ⟨Lc3_11, hQ3_11, l3_11, y3_11, z3_11⟩, st3_11⟩ := Jvm.LawKit.callS X7_10 hx (y := (⟨"java/util/Arrays", "copyOf", "([II)[I"⟩ : MethodName)) hown (mvT hZ (hw _ (List.mem_of_getElem? (i := 100) rfl))) (mvT hZ (hw _ (List.mem_of_getElem? (i := 70) rfl))) (mvT hZ (hw _ (List.mem_of_getElem? (i := 50) rfl))) (mvT hZ (hw _ (List.mem_of_getElem? (i := 71) rfl))) (by decide) (backOf (W := 0) (rm9n l Z a0 hw [] b8_3 (0 : Int32) k8_3 (er - sr) [] h8_3 n0 Z8 V_b8_3 hne0 (by decide) hlt0 (by decide)) hZ (hw _ (List.mem_of_getElem? (i := 71) rfl)) (hw _ (List.mem_of_getElem? (i := 50) rfl)) (by decide) (by decide)) (g := (mkF m 120 #[.val (.ref a1), .val (.int p2), .val (.int (own_div p2 (4 : Int32))), .val (.int (own_rem p2 (4 : Int32))), .val (.ref b8_3), .val (.int (0 : Int32)), .val (.int sr)] [(.int (0 : Int32)), (.ref b8_3)])) rfl (by rw [hml]; rfl) (argsL := [(.ref b8_3), (.int (0 : Int32))]) (rest := []) (lenOf pd_6 rfl) rfl (by show 2 * 0 + _ ≤ _; exact Nat.le_of_eq rfl) (hb hby d12_120) (fun _ _ => ⟨rfl, e7_10, (by decide : 0 + 1 + 1 ≤ _), (by decide : 0 + 1 + 6 ≤ _)⟩)
        dsimp only [Pt.U, Pt.locs, Pt.cells, Pt.slots] at X3_11 l3_11 y3_11 z3_11 st3_11 hQ3_11
        subst l3_11 y3_11 z3_11
        obtain ⟨rfl, N3q_11, K9_11, kk, V9_11⟩ := hQ3_11
        have N3_11 := Fr.app N5_2 N3q_11
        have st_11p : ∀ target, Steps p.tables e below (T3_11.setTop (mkF m 123 #[.val (.ref a1), .val (.int p2), .val (.int (own_div p2 (4 : Int32))), .val (.int (own_rem p2 (4 : Int32))), .val (.ref b8_3), .val (.int (0 : Int32)), .val (.int sr)] [(.ref h8_3.size)])) target → Steps p.tables e below (T7_10.setTop (mkF m 116 #[.val (.ref a1), .val (.int p2), .val (.int (own_div p2 (4 : Int32))), .val (.int (own_rem p2 (4 : Int32))), .val (.ref b8_3), .val (.int (0 : Int32)), .val (.int sr)] [])) target := by
          intro target kt
          show Steps p.tables e below (T7_10.setTop (mkF m 116 #[.val (.ref a1), .val (.int p2), .val (.int (own_div p2 (4 : Int32))), .val (.int (own_rem p2 (4 : Int32))), .val (.ref b8_3), .val (.int (0 : Int32)), .val (.int sr)] [])) _
          refine XS.aload X7_10.here hx rfl (hb hby d12_116) rfl rfl ?_
          show Steps p.tables e below (T7_10.setTop (mkF m 118 #[.val (.ref a1), .val (.int p2), .val (.int (own_div p2 (4 : Int32))), .val (.int (own_rem p2 (4 : Int32))), .val (.ref b8_3), .val (.int (0 : Int32)), .val (.int sr)] [(.ref b8_3)])) _
          refine XS.iload X7_10.here hx rfl (hb hby d12_118) rfl ?_
          show Steps p.tables e below (T7_10.setTop (mkF m 120 #[.val (.ref a1), .val (.int p2), .val (.int (own_div p2 (4 : Int32))), .val (.int (own_rem p2 (4 : Int32))), .val (.ref b8_3), .val (.int (0 : Int32)), .val (.int sr)] [(.int (0 : Int32)), (.ref b8_3)])) _
          refine st3_11 _ ?_
          exact kt
        obtain ⟨fs, hr, hrun, hended, hW, hsame⟩ := X3_11.leave (v := some (.ref h8_3.size)) (fun h => by rw [Bd.returns] at h; cases h)
        refine ⟨_, _, pre0 _ ?_, hrun, hended, _, _, rfl, ?_, ⟨_, rfl⟩, hW, hsame.mono (by decide) (by decide)⟩
        · show Steps p.tables e below (s₁.setTop (mkF m 0 #[.val (.ref a1), .val (.int p2), .unset, .unset, .unset, .unset, .unset] [])) _
          refine st_1p _ ?_
          refine st_2p _ ?_
          refine st_3p _ ?_
          refine st_4p _ ?_
          refine st_10p _ ?_
          refine st_11p _ ?_
          jvm_step X3_11.here [X3_11.here.top, hx, (hb hby d12_123), X3_11.method', Bd.returns, Value.isRef, FieldType.isReference]
          first | (intro acts; rw [hr _ acts rfl rfl rfl]) | rw [hr _ _ rfl rfl rfl]
          exact Steps.refl _
        · show Q12 Z a1 p2 la sa rn z sr er (0 : Int32) rs ss [] h0 n0 _ T3_11.heap _
          exact ⟨_, _, rfl, N3_11, K8_3.trans K9_11 all0, V9_11⟩
      · have hc2 : ¬ (own_rem p2 (4 : Int32)) < d' := hno.resolve_left hc1
        have hc60_12 : sr < er := hlt
        have hc73_12 : ¬ ((own_rem p2 (4 : Int32)) < c') := hc1
        have hc88_12 : ¬ ((own_rem p2 (4 : Int32)) < d') := hc2
        obtain ⟨T4_12, X4_12, e4_12, st4_12⟩ := getF X4_4 hx hZ hown (host := "") (Or.inl (hw _ (List.mem_of_getElem? (i := 86) rfl))) Via.refl e4_4 Fst8 (g := (mkF m 53 #[.val (.ref a1), .val (.int p2), .val (.int (own_div p2 (4 : Int32))), .val (.int (own_rem p2 (4 : Int32))), .val (.ref b8_3), .val (.int (0 : Int32)), .val (.int sr)] [(.ref a1), (.int sr)])) rfl rfl (hb hby d12_53)
        obtain ⟨T7_12, X7_12, e7_12, st7_12⟩ := getF X4_12 hx hZ hown (host := "") (Or.inl (hw _ (List.mem_of_getElem? (i := 88) rfl))) Via.refl e4_12 Fru8 (g := (mkF m 64 #[.val (.ref a1), .val (.int p2), .val (.int (own_div p2 (4 : Int32))), .val (.int (own_rem p2 (4 : Int32))), .val (.ref b8_3), .val (.int (0 : Int32)), .val (.int sr)] [(.ref a1)])) rfl rfl (hb hby d12_64)
        obtain ⟨T9_12, X9_12, e9_12, st9_12⟩ := getF X7_12 hx hZ hown (host := "") (Or.inl (hw _ (List.mem_of_getElem? (i := 88) rfl))) Via.refl e7_12 Fru8 (g := (mkF m 78 #[.val (.ref a1), .val (.int p2), .val (.int (own_div p2 (4 : Int32))), .val (.int (own_rem p2 (4 : Int32))), .val (.ref b8_3), .val (.int (0 : Int32)), .val (.int sr)] [(.ref a1), (.int (own_rem p2 (4 : Int32)))])) rfl rfl (hb hby d12_78)
        have st_12p : ∀ target, Steps p.tables e below (T9_12.setTop (mkF m 50 #[.val (.ref a1), .val (.int p2), .val (.int (own_div p2 (4 : Int32))), .val (.int (own_rem p2 (4 : Int32))), .val (.ref b8_3), .val (.int (0 : Int32)), .val (.int (sr + (1 : Int32)))] [])) target → Steps p.tables e below (T4_4.setTop (mkF m 50 #[.val (.ref a1), .val (.int p2), .val (.int (own_div p2 (4 : Int32))), .val (.int (own_rem p2 (4 : Int32))), .val (.ref b8_3), .val (.int (0 : Int32)), .val (.int sr)] [])) target := by
          intro target kt
          show Steps p.tables e below (T4_4.setTop (mkF m 50 #[.val (.ref a1), .val (.int p2), .val (.int (own_div p2 (4 : Int32))), .val (.int (own_rem p2 (4 : Int32))), .val (.ref b8_3), .val (.int (0 : Int32)), .val (.int sr)] [])) _
          refine XS.iload X4_4.here hx rfl (hb hby d12_50) rfl ?_
          show Steps p.tables e below (T4_4.setTop (mkF m 52 #[.val (.ref a1), .val (.int p2), .val (.int (own_div p2 (4 : Int32))), .val (.int (own_rem p2 (4 : Int32))), .val (.ref b8_3), .val (.int (0 : Int32)), .val (.int sr)] [(.int sr)])) _
          refine XS.aloadN X4_4.here hx rfl (hb hby d12_52) rfl rfl ?_
          show Steps p.tables e below (T4_4.setTop (mkF m 53 #[.val (.ref a1), .val (.int p2), .val (.int (own_div p2 (4 : Int32))), .val (.int (own_rem p2 (4 : Int32))), .val (.ref b8_3), .val (.int (0 : Int32)), .val (.int sr)] [(.ref a1), (.int sr)])) _
          refine st4_12 _ ?_
          show Steps p.tables e below (T4_12.setTop (mkF m 56 #[.val (.ref a1), .val (.int p2), .val (.int (own_div p2 (4 : Int32))), .val (.int (own_rem p2 (4 : Int32))), .val (.ref b8_3), .val (.int (0 : Int32)), .val (.int sr)] [(.ref sa), (.int sr)])) _
          refine XS.iloadN X4_12.here hx rfl (hb hby d12_56) rfl ?_
          show Steps p.tables e below (T4_12.setTop (mkF m 57 #[.val (.ref a1), .val (.int p2), .val (.int (own_div p2 (4 : Int32))), .val (.int (own_rem p2 (4 : Int32))), .val (.ref b8_3), .val (.int (0 : Int32)), .val (.int sr)] [(.int (own_div p2 (4 : Int32))), (.ref sa), (.int sr)])) _
          refine XS.iconst X4_12.here hx rfl (hb hby d12_57) ?_
          show Steps p.tables e below (T4_12.setTop (mkF m 58 #[.val (.ref a1), .val (.int p2), .val (.int (own_div p2 (4 : Int32))), .val (.int (own_rem p2 (4 : Int32))), .val (.ref b8_3), .val (.int (0 : Int32)), .val (.int sr)] [(.int (1 : Int32)), (.int (own_div p2 (4 : Int32))), (.ref sa), (.int sr)])) _
          refine XS.iadd X4_12.here hx rfl (hb hby d12_58) rfl ?_
          show Steps p.tables e below (T4_12.setTop (mkF m 59 #[.val (.ref a1), .val (.int p2), .val (.int (own_div p2 (4 : Int32))), .val (.int (own_rem p2 (4 : Int32))), .val (.ref b8_3), .val (.int (0 : Int32)), .val (.int sr)] [(.int ((own_div p2 (4 : Int32)) + (1 : Int32))), (.ref sa), (.int sr)])) _
          refine X4_12.iaload hx (j := ((own_div p2 (4 : Int32)) + (1 : Int32))) (v := (.int er)) (by rw [e4_12]; exact As8.1) (State.isArrayOf_alike hZ.alike As8.2.1) As8.2.2 is1 as1 (g := (mkF m 59 #[.val (.ref a1), .val (.int p2), .val (.int (own_div p2 (4 : Int32))), .val (.int (own_rem p2 (4 : Int32))), .val (.ref b8_3), .val (.int (0 : Int32)), .val (.int sr)] [(.int ((own_div p2 (4 : Int32)) + (1 : Int32))), (.ref sa), (.int sr)])) rfl rfl (hb hby d12_59) _ ?_
          show Steps p.tables e below (T4_12.setTop (mkF m 60 #[.val (.ref a1), .val (.int p2), .val (.int (own_div p2 (4 : Int32))), .val (.int (own_rem p2 (4 : Int32))), .val (.ref b8_3), .val (.int (0 : Int32)), .val (.int sr)] [(.int er), (.int sr)])) _
          refine XS.icmpNo X4_12.here hx rfl (hb hby d12_60) rfl (tlt hc60_12).2.1 ?_
          show Steps p.tables e below (T4_12.setTop (mkF m 63 #[.val (.ref a1), .val (.int p2), .val (.int (own_div p2 (4 : Int32))), .val (.int (own_rem p2 (4 : Int32))), .val (.ref b8_3), .val (.int (0 : Int32)), .val (.int sr)] [])) _
          refine XS.aloadN X4_12.here hx rfl (hb hby d12_63) rfl rfl ?_
          show Steps p.tables e below (T4_12.setTop (mkF m 64 #[.val (.ref a1), .val (.int p2), .val (.int (own_div p2 (4 : Int32))), .val (.int (own_rem p2 (4 : Int32))), .val (.ref b8_3), .val (.int (0 : Int32)), .val (.int sr)] [(.ref a1)])) _
          refine st7_12 _ ?_
          show Steps p.tables e below (T7_12.setTop (mkF m 67 #[.val (.ref a1), .val (.int p2), .val (.int (own_div p2 (4 : Int32))), .val (.int (own_rem p2 (4 : Int32))), .val (.ref b8_3), .val (.int (0 : Int32)), .val (.int sr)] [(.ref rn)])) _
          refine XS.iconst X7_12.here hx rfl (hb hby d12_67) ?_
          show Steps p.tables e below (T7_12.setTop (mkF m 68 #[.val (.ref a1), .val (.int p2), .val (.int (own_div p2 (4 : Int32))), .val (.int (own_rem p2 (4 : Int32))), .val (.ref b8_3), .val (.int (0 : Int32)), .val (.int sr)] [(.int (3 : Int32)), (.ref rn)])) _
          refine XS.iload X7_12.here hx rfl (hb hby d12_68) rfl ?_
          show Steps p.tables e below (T7_12.setTop (mkF m 70 #[.val (.ref a1), .val (.int p2), .val (.int (own_div p2 (4 : Int32))), .val (.int (own_rem p2 (4 : Int32))), .val (.ref b8_3), .val (.int (0 : Int32)), .val (.int sr)] [(.int sr), (.int (3 : Int32)), (.ref rn)])) _
          refine XS.imul X7_12.here hx rfl (hb hby d12_70) rfl ?_
          show Steps p.tables e below (T7_12.setTop (mkF m 71 #[.val (.ref a1), .val (.int p2), .val (.int (own_div p2 (4 : Int32))), .val (.int (own_rem p2 (4 : Int32))), .val (.ref b8_3), .val (.int (0 : Int32)), .val (.int sr)] [(.int ((3 : Int32) * sr)), (.ref rn)])) _
          refine X7_12.iaload hx (j := ((3 : Int32) * sr)) (v := (.int c')) (by rw [e7_12]; exact Ar8.1) (State.isArrayOf_alike hZ.alike Ar8.2.1) Ar8.2.2 ir0 ar0 (g := (mkF m 71 #[.val (.ref a1), .val (.int p2), .val (.int (own_div p2 (4 : Int32))), .val (.int (own_rem p2 (4 : Int32))), .val (.ref b8_3), .val (.int (0 : Int32)), .val (.int sr)] [(.int ((3 : Int32) * sr)), (.ref rn)])) rfl rfl (hb hby d12_71) _ ?_
          show Steps p.tables e below (T7_12.setTop (mkF m 72 #[.val (.ref a1), .val (.int p2), .val (.int (own_div p2 (4 : Int32))), .val (.int (own_rem p2 (4 : Int32))), .val (.ref b8_3), .val (.int (0 : Int32)), .val (.int sr)] [(.int c')])) _
          refine XS.iloadN X7_12.here hx rfl (hb hby d12_72) rfl ?_
          show Steps p.tables e below (T7_12.setTop (mkF m 73 #[.val (.ref a1), .val (.int p2), .val (.int (own_div p2 (4 : Int32))), .val (.int (own_rem p2 (4 : Int32))), .val (.ref b8_3), .val (.int (0 : Int32)), .val (.int sr)] [(.int (own_rem p2 (4 : Int32))), (.int c')])) _
          refine XS.icmpNo X7_12.here hx rfl (hb hby d12_73) rfl (flt hc73_12).2.2.1 ?_
          show Steps p.tables e below (T7_12.setTop (mkF m 76 #[.val (.ref a1), .val (.int p2), .val (.int (own_div p2 (4 : Int32))), .val (.int (own_rem p2 (4 : Int32))), .val (.ref b8_3), .val (.int (0 : Int32)), .val (.int sr)] [])) _
          refine XS.iloadN X7_12.here hx rfl (hb hby d12_76) rfl ?_
          show Steps p.tables e below (T7_12.setTop (mkF m 77 #[.val (.ref a1), .val (.int p2), .val (.int (own_div p2 (4 : Int32))), .val (.int (own_rem p2 (4 : Int32))), .val (.ref b8_3), .val (.int (0 : Int32)), .val (.int sr)] [(.int (own_rem p2 (4 : Int32)))])) _
          refine XS.aloadN X7_12.here hx rfl (hb hby d12_77) rfl rfl ?_
          show Steps p.tables e below (T7_12.setTop (mkF m 78 #[.val (.ref a1), .val (.int p2), .val (.int (own_div p2 (4 : Int32))), .val (.int (own_rem p2 (4 : Int32))), .val (.ref b8_3), .val (.int (0 : Int32)), .val (.int sr)] [(.ref a1), (.int (own_rem p2 (4 : Int32)))])) _
          refine st9_12 _ ?_
          show Steps p.tables e below (T9_12.setTop (mkF m 81 #[.val (.ref a1), .val (.int p2), .val (.int (own_div p2 (4 : Int32))), .val (.int (own_rem p2 (4 : Int32))), .val (.ref b8_3), .val (.int (0 : Int32)), .val (.int sr)] [(.ref rn), (.int (own_rem p2 (4 : Int32)))])) _
          refine XS.iconst X9_12.here hx rfl (hb hby d12_81) ?_
          show Steps p.tables e below (T9_12.setTop (mkF m 82 #[.val (.ref a1), .val (.int p2), .val (.int (own_div p2 (4 : Int32))), .val (.int (own_rem p2 (4 : Int32))), .val (.ref b8_3), .val (.int (0 : Int32)), .val (.int sr)] [(.int (3 : Int32)), (.ref rn), (.int (own_rem p2 (4 : Int32)))])) _
          refine XS.iload X9_12.here hx rfl (hb hby d12_82) rfl ?_
          show Steps p.tables e below (T9_12.setTop (mkF m 84 #[.val (.ref a1), .val (.int p2), .val (.int (own_div p2 (4 : Int32))), .val (.int (own_rem p2 (4 : Int32))), .val (.ref b8_3), .val (.int (0 : Int32)), .val (.int sr)] [(.int sr), (.int (3 : Int32)), (.ref rn), (.int (own_rem p2 (4 : Int32)))])) _
          refine XS.imul X9_12.here hx rfl (hb hby d12_84) rfl ?_
          show Steps p.tables e below (T9_12.setTop (mkF m 85 #[.val (.ref a1), .val (.int p2), .val (.int (own_div p2 (4 : Int32))), .val (.int (own_rem p2 (4 : Int32))), .val (.ref b8_3), .val (.int (0 : Int32)), .val (.int sr)] [(.int ((3 : Int32) * sr)), (.ref rn), (.int (own_rem p2 (4 : Int32)))])) _
          refine XS.iconst X9_12.here hx rfl (hb hby d12_85) ?_
          show Steps p.tables e below (T9_12.setTop (mkF m 86 #[.val (.ref a1), .val (.int p2), .val (.int (own_div p2 (4 : Int32))), .val (.int (own_rem p2 (4 : Int32))), .val (.ref b8_3), .val (.int (0 : Int32)), .val (.int sr)] [(.int (1 : Int32)), (.int ((3 : Int32) * sr)), (.ref rn), (.int (own_rem p2 (4 : Int32)))])) _
          refine XS.iadd X9_12.here hx rfl (hb hby d12_86) rfl ?_
          show Steps p.tables e below (T9_12.setTop (mkF m 87 #[.val (.ref a1), .val (.int p2), .val (.int (own_div p2 (4 : Int32))), .val (.int (own_rem p2 (4 : Int32))), .val (.ref b8_3), .val (.int (0 : Int32)), .val (.int sr)] [(.int (((3 : Int32) * sr) + (1 : Int32))), (.ref rn), (.int (own_rem p2 (4 : Int32)))])) _
          refine X9_12.iaload hx (j := (((3 : Int32) * sr) + (1 : Int32))) (v := (.int d')) (by rw [e9_12]; exact Ar8.1) (State.isArrayOf_alike hZ.alike Ar8.2.1) Ar8.2.2 ir1 ar1 (g := (mkF m 87 #[.val (.ref a1), .val (.int p2), .val (.int (own_div p2 (4 : Int32))), .val (.int (own_rem p2 (4 : Int32))), .val (.ref b8_3), .val (.int (0 : Int32)), .val (.int sr)] [(.int (((3 : Int32) * sr) + (1 : Int32))), (.ref rn), (.int (own_rem p2 (4 : Int32)))])) rfl rfl (hb hby d12_87) _ ?_
          show Steps p.tables e below (T9_12.setTop (mkF m 88 #[.val (.ref a1), .val (.int p2), .val (.int (own_div p2 (4 : Int32))), .val (.int (own_rem p2 (4 : Int32))), .val (.ref b8_3), .val (.int (0 : Int32)), .val (.int sr)] [(.int d'), (.int (own_rem p2 (4 : Int32)))])) _
          refine XS.icmpYes X9_12.here hx rfl (pc0 := 88) (pc' := 110) rfl (hb hby d12_88) rfl (flt hc88_12).2.1 (by decide) (by decide) ?_
          show Steps p.tables e below (T9_12.setTop (mkF m 110 #[.val (.ref a1), .val (.int p2), .val (.int (own_div p2 (4 : Int32))), .val (.int (own_rem p2 (4 : Int32))), .val (.ref b8_3), .val (.int (0 : Int32)), .val (.int sr)] [])) _
          refine XS.iinc X9_12.here hx rfl (hb hby d12_110) rfl (l' := #[.val (.ref a1), .val (.int p2), .val (.int (own_div p2 (4 : Int32))), .val (.int (own_rem p2 (4 : Int32))), .val (.ref b8_3), .val (.int (0 : Int32)), .val (.int (sr + (1 : Int32)))]) rfl ?_
          show Steps p.tables e below (T9_12.setTop (mkF m 113 #[.val (.ref a1), .val (.int p2), .val (.int (own_div p2 (4 : Int32))), .val (.int (own_rem p2 (4 : Int32))), .val (.ref b8_3), .val (.int (0 : Int32)), .val (.int (sr + (1 : Int32)))] [])) _
          refine XS.goto X9_12.here hx rfl (pc0 := 113) (pc' := 50) rfl (hb hby d12_113) (by decide) (by decide) ?_
          exact kt
        have hc60_13 : ¬ ((sr + (1 : Int32)) < er) := hend
        obtain ⟨T4_13, X4_13, e4_13, st4_13⟩ := getF X9_12 hx hZ hown (host := "") (Or.inl (hw _ (List.mem_of_getElem? (i := 86) rfl))) Via.refl e9_12 Fst8 (g := (mkF m 53 #[.val (.ref a1), .val (.int p2), .val (.int (own_div p2 (4 : Int32))), .val (.int (own_rem p2 (4 : Int32))), .val (.ref b8_3), .val (.int (0 : Int32)), .val (.int (sr + (1 : Int32)))] [(.ref a1), (.int (sr + (1 : Int32)))])) rfl rfl (hb hby d12_53)
        have st_13p : ∀ target, Steps p.tables e below (T4_13.setTop (mkF m 116 #[.val (.ref a1), .val (.int p2), .val (.int (own_div p2 (4 : Int32))), .val (.int (own_rem p2 (4 : Int32))), .val (.ref b8_3), .val (.int (0 : Int32)), .val (.int (sr + (1 : Int32)))] [])) target → Steps p.tables e below (T9_12.setTop (mkF m 50 #[.val (.ref a1), .val (.int p2), .val (.int (own_div p2 (4 : Int32))), .val (.int (own_rem p2 (4 : Int32))), .val (.ref b8_3), .val (.int (0 : Int32)), .val (.int (sr + (1 : Int32)))] [])) target := by
          intro target kt
          show Steps p.tables e below (T9_12.setTop (mkF m 50 #[.val (.ref a1), .val (.int p2), .val (.int (own_div p2 (4 : Int32))), .val (.int (own_rem p2 (4 : Int32))), .val (.ref b8_3), .val (.int (0 : Int32)), .val (.int (sr + (1 : Int32)))] [])) _
          refine XS.iload X9_12.here hx rfl (hb hby d12_50) rfl ?_
          show Steps p.tables e below (T9_12.setTop (mkF m 52 #[.val (.ref a1), .val (.int p2), .val (.int (own_div p2 (4 : Int32))), .val (.int (own_rem p2 (4 : Int32))), .val (.ref b8_3), .val (.int (0 : Int32)), .val (.int (sr + (1 : Int32)))] [(.int (sr + (1 : Int32)))])) _
          refine XS.aloadN X9_12.here hx rfl (hb hby d12_52) rfl rfl ?_
          show Steps p.tables e below (T9_12.setTop (mkF m 53 #[.val (.ref a1), .val (.int p2), .val (.int (own_div p2 (4 : Int32))), .val (.int (own_rem p2 (4 : Int32))), .val (.ref b8_3), .val (.int (0 : Int32)), .val (.int (sr + (1 : Int32)))] [(.ref a1), (.int (sr + (1 : Int32)))])) _
          refine st4_13 _ ?_
          show Steps p.tables e below (T4_13.setTop (mkF m 56 #[.val (.ref a1), .val (.int p2), .val (.int (own_div p2 (4 : Int32))), .val (.int (own_rem p2 (4 : Int32))), .val (.ref b8_3), .val (.int (0 : Int32)), .val (.int (sr + (1 : Int32)))] [(.ref sa), (.int (sr + (1 : Int32)))])) _
          refine XS.iloadN X4_13.here hx rfl (hb hby d12_56) rfl ?_
          show Steps p.tables e below (T4_13.setTop (mkF m 57 #[.val (.ref a1), .val (.int p2), .val (.int (own_div p2 (4 : Int32))), .val (.int (own_rem p2 (4 : Int32))), .val (.ref b8_3), .val (.int (0 : Int32)), .val (.int (sr + (1 : Int32)))] [(.int (own_div p2 (4 : Int32))), (.ref sa), (.int (sr + (1 : Int32)))])) _
          refine XS.iconst X4_13.here hx rfl (hb hby d12_57) ?_
          show Steps p.tables e below (T4_13.setTop (mkF m 58 #[.val (.ref a1), .val (.int p2), .val (.int (own_div p2 (4 : Int32))), .val (.int (own_rem p2 (4 : Int32))), .val (.ref b8_3), .val (.int (0 : Int32)), .val (.int (sr + (1 : Int32)))] [(.int (1 : Int32)), (.int (own_div p2 (4 : Int32))), (.ref sa), (.int (sr + (1 : Int32)))])) _
          refine XS.iadd X4_13.here hx rfl (hb hby d12_58) rfl ?_
          show Steps p.tables e below (T4_13.setTop (mkF m 59 #[.val (.ref a1), .val (.int p2), .val (.int (own_div p2 (4 : Int32))), .val (.int (own_rem p2 (4 : Int32))), .val (.ref b8_3), .val (.int (0 : Int32)), .val (.int (sr + (1 : Int32)))] [(.int ((own_div p2 (4 : Int32)) + (1 : Int32))), (.ref sa), (.int (sr + (1 : Int32)))])) _
          refine X4_13.iaload hx (j := ((own_div p2 (4 : Int32)) + (1 : Int32))) (v := (.int er)) (by rw [e4_13]; exact As8.1) (State.isArrayOf_alike hZ.alike As8.2.1) As8.2.2 is1 as1 (g := (mkF m 59 #[.val (.ref a1), .val (.int p2), .val (.int (own_div p2 (4 : Int32))), .val (.int (own_rem p2 (4 : Int32))), .val (.ref b8_3), .val (.int (0 : Int32)), .val (.int (sr + (1 : Int32)))] [(.int ((own_div p2 (4 : Int32)) + (1 : Int32))), (.ref sa), (.int (sr + (1 : Int32)))])) rfl rfl (hb hby d12_59) _ ?_
          show Steps p.tables e below (T4_13.setTop (mkF m 60 #[.val (.ref a1), .val (.int p2), .val (.int (own_div p2 (4 : Int32))), .val (.int (own_rem p2 (4 : Int32))), .val (.ref b8_3), .val (.int (0 : Int32)), .val (.int (sr + (1 : Int32)))] [(.int er), (.int (sr + (1 : Int32)))])) _
          refine XS.icmpYes X4_13.here hx rfl (pc0 := 60) (pc' := 116) rfl (hb hby d12_60) rfl (flt hc60_13).2.1 (by decide) (by decide) ?_
          exact kt
        have hne0 : ¬ (0 : Int32) = er - sr := by rw [h1]; decide
        have hlt0 : (0 : Int32) < er - sr := by rw [h1]; decide
        obtain ⟨_, _, ⟨T3_14, L3_14, k3_14, n3_14⟩, -, X3_14, ⟨Lc3_14, hQ3_14, l3_14, y3_14, z3_14⟩, st3_14⟩ := Jvm.LawKit.callS X4_13 hx (y := (⟨"java/util/Arrays", "copyOf", "([II)[I"⟩ : MethodName)) hown (mvT hZ (hw _ (List.mem_of_getElem? (i := 100) rfl))) (mvT hZ (hw _ (List.mem_of_getElem? (i := 70) rfl))) (mvT hZ (hw _ (List.mem_of_getElem? (i := 50) rfl))) (mvT hZ (hw _ (List.mem_of_getElem? (i := 71) rfl))) (by decide) (backOf (W := 0) (rm9n l Z a0 hw [] b8_3 (0 : Int32) k8_3 (er - sr) [] h8_3 n0 Z8 V_b8_3 hne0 (by decide) hlt0 (by decide)) hZ (hw _ (List.mem_of_getElem? (i := 71) rfl)) (hw _ (List.mem_of_getElem? (i := 50) rfl)) (by decide) (by decide)) (g := (mkF m 120 #[.val (.ref a1), .val (.int p2), .val (.int (own_div p2 (4 : Int32))), .val (.int (own_rem p2 (4 : Int32))), .val (.ref b8_3), .val (.int (0 : Int32)), .val (.int (sr + (1 : Int32)))] [(.int (0 : Int32)), (.ref b8_3)])) rfl (by rw [hml]; rfl) (argsL := [(.ref b8_3), (.int (0 : Int32))]) (rest := []) (lenOf pd_6 rfl) rfl (by show 2 * 0 + _ ≤ _; exact Nat.le_of_eq rfl) (hb hby d12_120) (fun _ _ => ⟨rfl, e4_13, (by decide : 0 + 1 + 1 ≤ _), (by decide : 0 + 1 + 6 ≤ _)⟩)
        dsimp only [Pt.U, Pt.locs, Pt.cells, Pt.slots] at X3_14 l3_14 y3_14 z3_14 st3_14 hQ3_14
        subst l3_14 y3_14 z3_14
        obtain ⟨rfl, N3q_14, K9_14, kk, V9_14⟩ := hQ3_14
        have N3_14 := Fr.app N5_2 N3q_14
        have st_14p : ∀ target, Steps p.tables e below (T3_14.setTop (mkF m 123 #[.val (.ref a1), .val (.int p2), .val (.int (own_div p2 (4 : Int32))), .val (.int (own_rem p2 (4 : Int32))), .val (.ref b8_3), .val (.int (0 : Int32)), .val (.int (sr + (1 : Int32)))] [(.ref h8_3.size)])) target → Steps p.tables e below (T4_13.setTop (mkF m 116 #[.val (.ref a1), .val (.int p2), .val (.int (own_div p2 (4 : Int32))), .val (.int (own_rem p2 (4 : Int32))), .val (.ref b8_3), .val (.int (0 : Int32)), .val (.int (sr + (1 : Int32)))] [])) target := by
          intro target kt
          show Steps p.tables e below (T4_13.setTop (mkF m 116 #[.val (.ref a1), .val (.int p2), .val (.int (own_div p2 (4 : Int32))), .val (.int (own_rem p2 (4 : Int32))), .val (.ref b8_3), .val (.int (0 : Int32)), .val (.int (sr + (1 : Int32)))] [])) _
          refine XS.aload X4_13.here hx rfl (hb hby d12_116) rfl rfl ?_
          show Steps p.tables e below (T4_13.setTop (mkF m 118 #[.val (.ref a1), .val (.int p2), .val (.int (own_div p2 (4 : Int32))), .val (.int (own_rem p2 (4 : Int32))), .val (.ref b8_3), .val (.int (0 : Int32)), .val (.int (sr + (1 : Int32)))] [(.ref b8_3)])) _
          refine XS.iload X4_13.here hx rfl (hb hby d12_118) rfl ?_
          show Steps p.tables e below (T4_13.setTop (mkF m 120 #[.val (.ref a1), .val (.int p2), .val (.int (own_div p2 (4 : Int32))), .val (.int (own_rem p2 (4 : Int32))), .val (.ref b8_3), .val (.int (0 : Int32)), .val (.int (sr + (1 : Int32)))] [(.int (0 : Int32)), (.ref b8_3)])) _
          refine st3_14 _ ?_
          exact kt
        obtain ⟨fs, hr, hrun, hended, hW, hsame⟩ := X3_14.leave (v := some (.ref h8_3.size)) (fun h => by rw [Bd.returns] at h; cases h)
        refine ⟨_, _, pre0 _ ?_, hrun, hended, _, _, rfl, ?_, ⟨_, rfl⟩, hW, hsame.mono (by decide) (by decide)⟩
        · show Steps p.tables e below (s₁.setTop (mkF m 0 #[.val (.ref a1), .val (.int p2), .unset, .unset, .unset, .unset, .unset] [])) _
          refine st_1p _ ?_
          refine st_2p _ ?_
          refine st_3p _ ?_
          refine st_4p _ ?_
          refine st_12p _ ?_
          refine st_13p _ ?_
          refine st_14p _ ?_
          jvm_step X3_14.here [X3_14.here.top, hx, (hb hby d12_123), X3_14.method', Bd.returns, Value.isRef, FieldType.isReference]
          first | (intro acts; rw [hr _ acts rfl rfl rfl]) | rw [hr _ _ rfl rfl rfl]
          exact Steps.refl _
        · show Q12 Z a1 p2 la sa rn z sr er (0 : Int32) rs ss [] h0 n0 _ T3_14.heap _
          exact ⟨_, _, rfl, N3_14, K8_3.trans K9_14 all0, V9_14⟩

def own_want (row col f0 p c0 f1 q c1 : Int32) : Int32 := if row = 0 ∧ ¬ f0 = 0 ∧ col = c0 then p else if row = 1 ∧ ¬ f1 = 0 ∧ col = c1 then q else -1
theorem own_and1 (x : Int32) : (x &&& (1 : Int32)) = 0 ∨ (x &&& (1 : Int32)) = 1 := by
  have h : (x &&& (1 : Int32)).toBitVec = x.toBitVec &&& 1#32 := rfl
  have e : (x.toBitVec &&& 1#32).toNat = x.toBitVec.toNat % 2 := by rw [BitVec.toNat_and]; exact Nat.and_two_pow_sub_one_eq_mod _ 1
  have hl : x.toBitVec.toNat % 2 = 0 ∨ x.toBitVec.toNat % 2 = 1 := by omega
  rcases hl with k | k <;> rw [k] at e
  · exact Or.inl (Int32.toBitVec.inj (h.trans (BitVec.eq_of_toNat_eq e)))
  · exact Or.inr (Int32.toBitVec.inj (h.trans (BitVec.eq_of_toNat_eq e)))
theorem own_and3 (x : Int32) : 0 ≤ (x &&& (3 : Int32)).toInt ∧ (x &&& (3 : Int32)).toInt ≤ 3 := by
  have e : (x &&& (3 : Int32)).toBitVec = x.toBitVec &&& 3#32 := rfl
  have k : (x.toBitVec &&& 3#32).toNat = x.toBitVec.toNat % 4 := by rw [BitVec.toNat_and]; exact Nat.and_two_pow_sub_one_eq_mod _ 2
  have t : (x &&& (3 : Int32)).toInt = ((x.toBitVec.toNat % 4 : Nat) : Int) := by
    show (x &&& (3 : Int32)).toBitVec.toInt = _
    rw [e, BitVec.toInt_eq_toNat_of_lt (by rw [k]; omega), k]
  omega
theorem own_div4 {x : Int32} (h0 : 0 ≤ x.toInt) (h1 : x.toInt < 12) : own_div x (4 : Int32) = 0 ∨ own_div x (4 : Int32) = 1 ∨ own_div x (4 : Int32) = 2 := by
  have e4 : (4 : Int32).toInt = 4 := rfl
  have t : (own_div x (4 : Int32)).toInt = x.toInt / 4 := by
    unfold own_div
    rw [Int32.toInt_div, e4, Int.tdiv_eq_ediv_of_nonneg h0]
    exact Int.bmod_eq_of_le (by omega) (by omega)
  have k : (own_div x (4 : Int32)).toInt = 0 ∨ (own_div x (4 : Int32)).toInt = 1 ∨ (own_div x (4 : Int32)).toInt = 2 := by rw [t]; omega
  rcases k with k | k | k
  · exact Or.inl (Int32.toInt.inj k)
  · exact Or.inr (Or.inl (Int32.toInt.inj k))
  · exact Or.inr (Or.inr (Int32.toInt.inj k))
theorem own_col {x c : Int32} (h0 : 0 ≤ x.toInt ∧ x.toInt ≤ 3) : (¬ c < x ∧ c < x + (1 : Int32)) ↔ c = x := by
  have e1 : (1 : Int32).toInt = 1 := rfl
  have t : (x + (1 : Int32)).toInt = x.toInt + 1 := by
    rw [Int32.toInt_add, e1]; exact Int.bmod_eq_of_le (by omega) (by omega)
  rw [Int32.lt_iff_toInt_lt, Int32.lt_iff_toInt_lt, t]
  constructor
  · intro h; exact Int32.toInt.inj (by omega)
  · intro h; subst h; omega
def own_R2 (f0 f1 p q c0 c1 rc1 rc2 : Int32) (rs : List Value) : Prop :=
  (f0 = 0 ∧ f1 = 0 ∧ rc1 = 0 ∧ rc2 = 0 ∧ rs = [.int 0, .int 0, .int 0, .int 0, .int 0, .int 0]) ∨
  (¬ f0 = 0 ∧ f1 = 0 ∧ rc1 = 1 ∧ rc2 = 1 ∧ rs = [.int c0, .int (c0 + (1 : Int32)), .int p, .int 0, .int 0, .int 0]) ∨
  (f0 = 0 ∧ ¬ f1 = 0 ∧ rc1 = 0 ∧ rc2 = 1 ∧ rs = [.int c1, .int (c1 + (1 : Int32)), .int q, .int 0, .int 0, .int 0]) ∨
  (¬ f0 = 0 ∧ ¬ f1 = 0 ∧ rc1 = 1 ∧ rc2 = 2 ∧ rs = [.int c0, .int (c0 + (1 : Int32)), .int p, .int c1, .int (c1 + (1 : Int32)), .int q])
theorem own_R2rc {f0 f1 p q c0 c1 rc1 rc2 : Int32} {rs : List Value} (h : own_R2 f0 f1 p q c0 c1 rc1 rc2 rs) : rc2 = 0 ∨ rc2 = 1 ∨ rc2 = 2 := by
  rcases h with ⟨-, -, -, h, -⟩ | ⟨-, -, -, h, -⟩ | ⟨-, -, -, h, -⟩ | ⟨-, -, -, h, -⟩
  · exact Or.inl h
  · exact Or.inr (Or.inl h)
  · exact Or.inr (Or.inl h)
  · exact Or.inr (Or.inr h)
/-- one run in the row -/
theorem own_one {rs : List Value} {z col sr er c pp : Int32} (hc : 0 ≤ c.toInt ∧ c.toInt ≤ 3) (h1 : er - sr = 1) (h2 : sr < er) (h3 : ¬ (sr + (1 : Int32)) < er) (j0 : ¬ (3 : Int32) * sr < 0 ∧ (3 : Int32) * sr < z) (j1 : ¬ (3 : Int32) * sr + (1 : Int32) < 0 ∧ (3 : Int32) * sr + (1 : Int32) < z) (j2 : ¬ (3 : Int32) * sr + (2 : Int32) < 0 ∧ (3 : Int32) * sr + (2 : Int32) < z)
    (v0 : rs.getD ((3 : Int32) * sr).toNatClampNeg (.int 0) = .int c) (v1 : rs.getD ((3 : Int32) * sr + (1 : Int32)).toNatClampNeg (.int 0) = .int (c + (1 : Int32))) (v2 : rs.getD ((3 : Int32) * sr + (2 : Int32)).toNatClampNeg (.int 0) = .int pp) :
    own_R rs z col sr er (if col = c then 1 else 0) (if col = c then [.int pp] else []) := by
  refine Or.inr ⟨c, c + (1 : Int32), pp, h1, h2, h3, j0, j1, j2, v0, v1, v2, ?_⟩
  by_cases h : col = c
  · have k := (own_col hc).mpr h
    rw [if_pos h, if_pos h]
    exact Or.inl ⟨k.1, k.2, rfl, rfl⟩
  · rw [if_neg h, if_neg h]
    refine Or.inr ⟨?_, rfl, rfl⟩
    by_cases u : col < c
    · exact Or.inl u
    · exact Or.inr fun w => h ((own_col hc).mp ⟨u, w⟩)
def own_Good (rs ss : List Value) (z row col want : Int32) : Prop := ∃ (sr er zz : Int32) (vv : List Value), ((¬ row < 0 ∧ row < (4 : Int32)) ∧ (¬ row + (1 : Int32) < 0 ∧ row + (1 : Int32) < (4 : Int32))) ∧ ss.getD row.toNatClampNeg (.int 0) = .int sr ∧ ss.getD (row + (1 : Int32)).toNatClampNeg (.int 0) = .int er ∧ own_R rs z col sr er zz vv ∧ (want < 0 → zz = 0) ∧ (¬ want < 0 → zz = 1 ∧ vv.getD 0 (.int 0) = .int want)
theorem own_zero {rs ss : List Value} {z row col s : Int32} (h : (¬ row < 0 ∧ row < (4 : Int32)) ∧ (¬ row + (1 : Int32) < 0 ∧ row + (1 : Int32) < (4 : Int32))) (a : ss.getD row.toNatClampNeg (.int 0) = .int s) (b : ss.getD (row + (1 : Int32)).toNatClampNeg (.int 0) = .int s) : own_Good rs ss z row col (-1) :=
  ⟨s, s, 0, [], h, a, b, Or.inl ⟨rfl, rfl, rfl⟩, fun _ => rfl, fun k => absurd (by decide) k⟩
theorem own_some {rs ss : List Value} {z row col sr er c pp : Int32} (h : (¬ row < 0 ∧ row < (4 : Int32)) ∧ (¬ row + (1 : Int32) < 0 ∧ row + (1 : Int32) < (4 : Int32))) (a : ss.getD row.toNatClampNeg (.int 0) = .int sr) (b : ss.getD (row + (1 : Int32)).toNatClampNeg (.int 0) = .int er) (hp : pp = 0 ∨ pp = 1)
    (R : own_R rs z col sr er (if col = c then 1 else 0) (if col = c then [.int pp] else [])) : own_Good rs ss z row col (if col = c then pp else -1) := by
  refine ⟨sr, er, _, _, h, a, b, R, fun k => ?_, fun k => ?_⟩
  · by_cases u : col = c
    · rw [if_pos u] at k; rcases hp with rfl | rfl <;> exact absurd k (by decide)
    · rw [if_neg u]
  · by_cases u : col = c
    · rw [if_pos u, if_pos u, if_pos u]; exact ⟨rfl, rfl⟩
    · rw [if_neg u] at k; exact absurd (by decide) k
theorem own_want0 {col f0 p c0 f1 q c1 : Int32} (h : ¬ f0 = 0) : own_want 0 col f0 p c0 f1 q c1 = if col = c0 then p else -1 := by
  unfold own_want
  by_cases u : col = c0
  · simp [u, h]
  · simp [u]
theorem own_want1 {col f0 p c0 f1 q c1 : Int32} (h : ¬ f1 = 0) : own_want 1 col f0 p c0 f1 q c1 = if col = c1 then q else -1 := by
  unfold own_want
  by_cases u : col = c1
  · simp [u, h]
  · simp [u]
theorem own_look {f0 f1 p q c0 c1 rc1 rc2 : Int32} {rs : List Value} (h : own_R2 f0 f1 p q c0 c1 rc1 rc2 rs) (hp : p = 0 ∨ p = 1) (hq : q = 0 ∨ q = 1) (hc0 : 0 ≤ c0.toInt ∧ c0.toInt ≤ 3) (hc1 : 0 ≤ c1.toInt ∧ c1.toInt ≤ 3) (row col : Int32) (hr : row = 0 ∨ row = 1 ∨ row = 2) :
    own_Good (own_fst rs ((3 : Int32) * rc2).toNatClampNeg) [.int 0, .int rc1, .int rc2, .int rc2] ((3 : Int32) * rc2) row col (own_want row col f0 p c0 f1 q c1) := by
  rcases h with ⟨h0, h1, rfl, rfl, rfl⟩ | ⟨h0, h1, rfl, rfl, rfl⟩ | ⟨h0, h1, rfl, rfl, rfl⟩ | ⟨h0, h1, rfl, rfl, rfl⟩ <;> rcases hr with rfl | rfl | rfl
  · rw [show own_want (0 : Int32) col f0 p c0 f1 q c1 = -1 from by simp [own_want, h0, h1]]
    exact own_zero (s := (0 : Int32)) ⟨⟨by decide, by decide⟩, ⟨by decide, by decide⟩⟩ (by rw [show (0 : Int32).toNatClampNeg = 0 from by decide]; rfl) (by rw [show ((0 : Int32) + (1 : Int32)).toNatClampNeg = 1 from by decide]; rfl)
  · rw [show own_want (1 : Int32) col f0 p c0 f1 q c1 = -1 from by simp [own_want, h0, h1]]
    exact own_zero (s := (0 : Int32)) ⟨⟨by decide, by decide⟩, ⟨by decide, by decide⟩⟩ (by rw [show (1 : Int32).toNatClampNeg = 1 from by decide]; rfl) (by rw [show ((1 : Int32) + (1 : Int32)).toNatClampNeg = 2 from by decide]; rfl)
  · rw [show own_want (2 : Int32) col f0 p c0 f1 q c1 = -1 from by simp [own_want, h0, h1]]
    exact own_zero (s := (0 : Int32)) ⟨⟨by decide, by decide⟩, ⟨by decide, by decide⟩⟩ (by rw [show (2 : Int32).toNatClampNeg = 2 from by decide]; rfl) (by rw [show ((2 : Int32) + (1 : Int32)).toNatClampNeg = 3 from by decide]; rfl)
  · rw [own_want0 h0]
    exact own_some (sr := (0 : Int32)) (er := (1 : Int32)) ⟨⟨by decide, by decide⟩, ⟨by decide, by decide⟩⟩ (by rw [show (0 : Int32).toNatClampNeg = 0 from by decide]; rfl) (by rw [show ((0 : Int32) + (1 : Int32)).toNatClampNeg = 1 from by decide]; rfl) hp (own_one hc0 (by decide) (by decide) (by decide) ⟨by decide, by decide⟩ ⟨by decide, by decide⟩ ⟨by decide, by decide⟩ (by rw [show ((3 : Int32) * (0 : Int32)).toNatClampNeg = 0 from by decide, show ((3 : Int32) * (1 : Int32)).toNatClampNeg = 3 from by decide]; rfl) (by rw [show ((3 : Int32) * (0 : Int32) + (1 : Int32)).toNatClampNeg = 1 from by decide, show ((3 : Int32) * (1 : Int32)).toNatClampNeg = 3 from by decide]; rfl) (by rw [show ((3 : Int32) * (0 : Int32) + (2 : Int32)).toNatClampNeg = 2 from by decide, show ((3 : Int32) * (1 : Int32)).toNatClampNeg = 3 from by decide]; rfl))
  · rw [show own_want (1 : Int32) col f0 p c0 f1 q c1 = -1 from by simp [own_want, h0, h1]]
    exact own_zero (s := (1 : Int32)) ⟨⟨by decide, by decide⟩, ⟨by decide, by decide⟩⟩ (by rw [show (1 : Int32).toNatClampNeg = 1 from by decide]; rfl) (by rw [show ((1 : Int32) + (1 : Int32)).toNatClampNeg = 2 from by decide]; rfl)
  · rw [show own_want (2 : Int32) col f0 p c0 f1 q c1 = -1 from by simp [own_want, h0, h1]]
    exact own_zero (s := (1 : Int32)) ⟨⟨by decide, by decide⟩, ⟨by decide, by decide⟩⟩ (by rw [show (2 : Int32).toNatClampNeg = 2 from by decide]; rfl) (by rw [show ((2 : Int32) + (1 : Int32)).toNatClampNeg = 3 from by decide]; rfl)
  · rw [show own_want (0 : Int32) col f0 p c0 f1 q c1 = -1 from by simp [own_want, h0, h1]]
    exact own_zero (s := (0 : Int32)) ⟨⟨by decide, by decide⟩, ⟨by decide, by decide⟩⟩ (by rw [show (0 : Int32).toNatClampNeg = 0 from by decide]; rfl) (by rw [show ((0 : Int32) + (1 : Int32)).toNatClampNeg = 1 from by decide]; rfl)
  · rw [own_want1 h1]
    exact own_some (sr := (0 : Int32)) (er := (1 : Int32)) ⟨⟨by decide, by decide⟩, ⟨by decide, by decide⟩⟩ (by rw [show (1 : Int32).toNatClampNeg = 1 from by decide]; rfl) (by rw [show ((1 : Int32) + (1 : Int32)).toNatClampNeg = 2 from by decide]; rfl) hq (own_one hc1 (by decide) (by decide) (by decide) ⟨by decide, by decide⟩ ⟨by decide, by decide⟩ ⟨by decide, by decide⟩ (by rw [show ((3 : Int32) * (0 : Int32)).toNatClampNeg = 0 from by decide, show ((3 : Int32) * (1 : Int32)).toNatClampNeg = 3 from by decide]; rfl) (by rw [show ((3 : Int32) * (0 : Int32) + (1 : Int32)).toNatClampNeg = 1 from by decide, show ((3 : Int32) * (1 : Int32)).toNatClampNeg = 3 from by decide]; rfl) (by rw [show ((3 : Int32) * (0 : Int32) + (2 : Int32)).toNatClampNeg = 2 from by decide, show ((3 : Int32) * (1 : Int32)).toNatClampNeg = 3 from by decide]; rfl))
  · rw [show own_want (2 : Int32) col f0 p c0 f1 q c1 = -1 from by simp [own_want, h0, h1]]
    exact own_zero (s := (1 : Int32)) ⟨⟨by decide, by decide⟩, ⟨by decide, by decide⟩⟩ (by rw [show (2 : Int32).toNatClampNeg = 2 from by decide]; rfl) (by rw [show ((2 : Int32) + (1 : Int32)).toNatClampNeg = 3 from by decide]; rfl)
  · rw [own_want0 h0]
    exact own_some (sr := (0 : Int32)) (er := (1 : Int32)) ⟨⟨by decide, by decide⟩, ⟨by decide, by decide⟩⟩ (by rw [show (0 : Int32).toNatClampNeg = 0 from by decide]; rfl) (by rw [show ((0 : Int32) + (1 : Int32)).toNatClampNeg = 1 from by decide]; rfl) hp (own_one hc0 (by decide) (by decide) (by decide) ⟨by decide, by decide⟩ ⟨by decide, by decide⟩ ⟨by decide, by decide⟩ (by rw [show ((3 : Int32) * (0 : Int32)).toNatClampNeg = 0 from by decide, show ((3 : Int32) * (2 : Int32)).toNatClampNeg = 6 from by decide]; rfl) (by rw [show ((3 : Int32) * (0 : Int32) + (1 : Int32)).toNatClampNeg = 1 from by decide, show ((3 : Int32) * (2 : Int32)).toNatClampNeg = 6 from by decide]; rfl) (by rw [show ((3 : Int32) * (0 : Int32) + (2 : Int32)).toNatClampNeg = 2 from by decide, show ((3 : Int32) * (2 : Int32)).toNatClampNeg = 6 from by decide]; rfl))
  · rw [own_want1 h1]
    exact own_some (sr := (1 : Int32)) (er := (2 : Int32)) ⟨⟨by decide, by decide⟩, ⟨by decide, by decide⟩⟩ (by rw [show (1 : Int32).toNatClampNeg = 1 from by decide]; rfl) (by rw [show ((1 : Int32) + (1 : Int32)).toNatClampNeg = 2 from by decide]; rfl) hq (own_one hc1 (by decide) (by decide) (by decide) ⟨by decide, by decide⟩ ⟨by decide, by decide⟩ ⟨by decide, by decide⟩ (by rw [show ((3 : Int32) * (1 : Int32)).toNatClampNeg = 3 from by decide, show ((3 : Int32) * (2 : Int32)).toNatClampNeg = 6 from by decide]; rfl) (by rw [show ((3 : Int32) * (1 : Int32) + (1 : Int32)).toNatClampNeg = 4 from by decide, show ((3 : Int32) * (2 : Int32)).toNatClampNeg = 6 from by decide]; rfl) (by rw [show ((3 : Int32) * (1 : Int32) + (2 : Int32)).toNatClampNeg = 5 from by decide, show ((3 : Int32) * (2 : Int32)).toNatClampNeg = 6 from by decide]; rfl))
  · rw [show own_want (2 : Int32) col f0 p c0 f1 q c1 = -1 from by simp [own_want, h0, h1]]
    exact own_zero (s := (2 : Int32)) ⟨⟨by decide, by decide⟩, ⟨by decide, by decide⟩⟩ (by rw [show (2 : Int32).toNatClampNeg = 2 from by decide]; rfl) (by rw [show ((2 : Int32) + (1 : Int32)).toNatClampNeg = 3 from by decide]; rfl)
theorem d14_18 : decode method_2_code 18 = .ok (.iload_n 2, 1) := by decide +kernel
theorem d14_19 : decode method_2_code 19 = .ok (.ifCond .eq 16, 3) := by decide +kernel
theorem d14_22 : decode method_2_code 22 = .ok (.iload 9, 2) := by decide +kernel
theorem d14_24 : decode method_2_code 24 = .ok (.iload 4, 2) := by decide +kernel
theorem d14_26 : decode method_2_code 26 = .ok (.if_icmp .ne 9, 3) := by decide +kernel
theorem d14_29 : decode method_2_code 29 = .ok (.iload_n 3, 1) := by decide +kernel
theorem d14_30 : decode method_2_code 30 = .ok (.istore 10, 2) := by decide +kernel
theorem d14_32 : decode method_2_code 32 = .ok (.goto 25, 3) := by decide +kernel
theorem d14_41 : decode method_2_code 41 = .ok (.iload 5, 2) := by decide +kernel
theorem d14_43 : decode method_2_code 43 = .ok (.ifCond .eq 14, 3) := by decide +kernel
theorem d14_46 : decode method_2_code 46 = .ok (.iload 9, 2) := by decide +kernel
theorem d14_48 : decode method_2_code 48 = .ok (.iload 7, 2) := by decide +kernel
theorem d14_50 : decode method_2_code 50 = .ok (.if_icmp .ne 7, 3) := by decide +kernel
theorem d14_53 : decode method_2_code 53 = .ok (.iload 6, 2) := by decide +kernel
theorem d14_55 : decode method_2_code 55 = .ok (.istore 10, 2) := by decide +kernel
theorem d14_73 : decode method_2_code 73 = .ok (.aload_n 0, 1) := by decide +kernel
theorem d14_74 : decode method_2_code 74 = .ok (.arraylength, 1) := by decide +kernel
theorem d14_75 : decode method_2_code 75 = .ok (.iconst 1, 1) := by decide +kernel
theorem d14_76 : decode method_2_code 76 = .ok (.if_icmp .ne 15, 3) := by decide +kernel
theorem d14_79 : decode method_2_code 79 = .ok (.aload_n 0, 1) := by decide +kernel
theorem d14_80 : decode method_2_code 80 = .ok (.iconst 0, 1) := by decide +kernel
theorem d14_81 : decode method_2_code 81 = .ok (.iaload, 1) := by decide +kernel
theorem d14_82 : decode method_2_code 82 = .ok (.iload 10, 2) := by decide +kernel
theorem d14_84 : decode method_2_code 84 = .ok (.if_icmp .ne 7, 3) := by decide +kernel
theorem d14_87 : decode method_2_code 87 = .ok (.iconst 1, 1) := by decide +kernel
theorem d14_88 : decode method_2_code 88 = .ok (.goto 4, 3) := by decide +kernel
theorem d14_92 : decode method_2_code 92 = .ok (.ireturn, 1) := by decide +kernel
theorem d14_0 : decode method_2_code 0 = .ok (.iload_n 1, 1) := by decide +kernel
theorem d14_1 : decode method_2_code 1 = .ok (.iconst 4, 1) := by decide +kernel
theorem d14_2 : decode method_2_code 2 = .ok (.idiv, 1) := by decide +kernel
theorem d14_3 : decode method_2_code 3 = .ok (.istore 8, 2) := by decide +kernel
theorem d14_5 : decode method_2_code 5 = .ok (.iload_n 1, 1) := by decide +kernel
theorem d14_6 : decode method_2_code 6 = .ok (.iconst 4, 1) := by decide +kernel
theorem d14_7 : decode method_2_code 7 = .ok (.irem, 1) := by decide +kernel
theorem d14_8 : decode method_2_code 8 = .ok (.istore 9, 2) := by decide +kernel
theorem d14_10 : decode method_2_code 10 = .ok (.iconst (-1), 1) := by decide +kernel
theorem d14_11 : decode method_2_code 11 = .ok (.istore 10, 2) := by decide +kernel
theorem d14_13 : decode method_2_code 13 = .ok (.iload 8, 2) := by decide +kernel
theorem d14_15 : decode method_2_code 15 = .ok (.ifCond .ne 20, 3) := by decide +kernel
theorem d14_35 : decode method_2_code 35 = .ok (.iload 8, 2) := by decide +kernel
theorem d14_37 : decode method_2_code 37 = .ok (.iconst 1, 1) := by decide +kernel
theorem d14_38 : decode method_2_code 38 = .ok (.if_icmp .ne 19, 3) := by decide +kernel
theorem d14_57 : decode method_2_code 57 = .ok (.iload 10, 2) := by decide +kernel
theorem d14_59 : decode method_2_code 59 = .ok (.ifCond .ge 14, 3) := by decide +kernel
theorem d14_62 : decode method_2_code 62 = .ok (.aload_n 0, 1) := by decide +kernel
theorem d14_63 : decode method_2_code 63 = .ok (.arraylength, 1) := by decide +kernel
theorem d14_64 : decode method_2_code 64 = .ok (.ifCond .ne 7, 3) := by decide +kernel
theorem d14_67 : decode method_2_code 67 = .ok (.iconst 1, 1) := by decide +kernel
theorem d14_68 : decode method_2_code 68 = .ok (.goto 4, 3) := by decide +kernel
theorem d14_72 : decode method_2_code 72 = .ok (.ireturn, 1) := by decide +kernel
theorem pn_14 : plainName "com/example/tilecairn/tilecairn/zonal/BuilderEndRowPinLaw" = true := by first | (simp [plainName, overriddenIn]; done) | decide +kernel
theorem ef_14 (m : MethodId) (x0 : Addr) (x1 : Int32) (x2 : Int32) (x3 : Int32) (x4 : Int32) (x5 : Int32) (x6 : Int32) (x7 : Int32) : entryFrame m #[(.ref x0), (.int x1), (.int x2), (.int x3), (.int x4), (.int x5), (.int x6), (.int x7)] 11 = mkF m 0 #[.val (.ref x0), .val (.int x1), .val (.int x2), .val (.int x3), .val (.int x4), .val (.int x5), .val (.int x6), .val (.int x7), .unset, .unset, .unset] [] := by first | (simp [entryFrame, mkF, argsToLocals, Value.category]; done) | rfl
def Q14 (Z : State) (a1 : Addr) (p2 : Int32) (p3 : Int32) (p4 : Int32) (p5 : Int32) (p6 : Int32) (p7 : Int32) (p8 : Int32) (k : ClassId) (z : Int32) (vs : List Value) (h0 : Heap) (n0 : Nat) (v : Option Value) (h : Heap) (L : List Loc) : Prop := v = some (.int (1 : Int32)) ∧ Fr n0 L ∧ h = h0
set_option maxRecDepth 65536 in
set_option maxHeartbeats 40000000 in
theorem rm14 (l : Launch) (Z : State) (a0 : Array Value) (hw : ∀ d ∈ tables_1, d.before a0 Z = true) (ws : List Jvm.Cond) (a1 : Addr) (p2 : Int32) (p3 : Int32) (p4 : Int32) (p5 : Int32) (p6 : Int32) (p7 : Int32) (p8 : Int32) (k : ClassId) (z : Int32) (vs : List Value) (h0 : Heap) (n0 : Nat) (Z0 : n0 ≤ h0.size) (V : Arv Z h0 a1 k .int z vs (.int 0)) (h1 : (own_want (own_div p2 (4 : Int32)) (own_rem p2 (4 : Int32)) p3 p4 p5 p6 p7 p8) < 0 → z = 0) (h2 : ¬ (own_want (own_div p2 (4 : Int32)) (own_rem p2 (4 : Int32)) p3 p4 p5 p6 p7 p8) < 0 → z = 1 ∧ vs.getD 0 (.int 0) = .int (own_want (own_div p2 (4 : Int32)) (own_rem p2 (4 : Int32)) p3 p4 p5 p6 p7 p8)) :
    MetFree l (⟨"com/example/tilecairn/tilecairn/zonal/BuilderEndRowPinLaw", "ok", "([IIZIIZII)Z"⟩ : MethodName) (head1 (Jvm.Cond.code (⟨"com/example/tilecairn/tilecairn/zonal/BuilderEndRowPinLaw", "ok", "([IIZIIZII)Z"⟩ : MethodName) method_2_code 11 (some .boolean) :: ws) ({ frames := 0, cells := 0, slots := 0, locals := 0 } : Room)) (fun a U => a = #[(.ref a1), (.int p2), (.int p3), (.int p4), (.int p5), (.int p6), (.int p7), (.int p8)] ∧ Z.Warmed39 U.vm ∧ U.heap = h0) (fun _ _ _ _ _ => True) (fun _ U o U' => ∃ v L, o = .returned v ∧ Q14 Z a1 p2 p3 p4 p5 p6 p7 p8 k z vs h0 n0 v U'.heap L ∧ FrameEnd U o U' L ({ frames := 0, cells := 0, slots := 0, locals := 0 } : Room).cells ({ frames := 0, cells := 0, slots := 0, locals := 0 } : Room).slots) := by
  refine MetFree.of_bodySF (plainFor_of_name pn_14) hisR ?_
  intro p e s m args below meth c s₁ Bd hml0 hP hK
  obtain ⟨rfl, hZ, hh⟩ := hP
  have hx := Bd.exec
  have hby := Bd.bytes
  have hml : c.maxLocals = 11 := hml0
  have hown : s.vm.findClass "com/example/tilecairn/tilecairn/zonal/BuilderEndRowPinLaw" = some m.cls := findClass_of_methodNamed Bd.named
  have hnm := (name_of_methodNamed Bd.named Bd.method).1
  have X0 : Stand p l e ({ frames := 0, cells := 0, slots := 0, locals := 0 } : Room) s m #[(.ref a1), (.int p2), (.int p3), (.int p4), (.int p5), (.int p6), (.int p7), (.int p8)] below meth c s₁ [] 0 0 := Stand.of_body Bd
  have e0 : s₁.heap = h0 := by rw [← hh, Bd.state]; rfl
  have N0 := Fr.nil n0
  have pre0 : ∀ t, Steps p.tables e below (s₁.setTop (mkF m 0 #[.val (.ref a1), .val (.int p2), .val (.int p3), .val (.int p4), .val (.int p5), .val (.int p6), .val (.int p7), .val (.int p8), .unset, .unset, .unset] [])) t → Steps p.tables e below (s₁.setTop (entryFrame m #[(.ref a1), (.int p2), (.int p3), (.int p4), (.int p5), (.int p6), (.int p7), (.int p8)] 11)) t := fun t k => castTop (ef_14 m a1 p2 p3 p4 p5 p6 p7 p8) k
  obtain ⟨c0, A0, q0, S0, M0, H0, G0⟩ := V
  have hy2_1 : (4 : Int32) ≠ 0 := (by decide)
  have hy7_1 : (4 : Int32) ≠ 0 := (by decide)
  have st_1p : ∀ target, Steps p.tables e below (s₁.setTop (mkF m 13 #[.val (.ref a1), .val (.int p2), .val (.int p3), .val (.int p4), .val (.int p5), .val (.int p6), .val (.int p7), .val (.int p8), .val (.int (own_div p2 (4 : Int32))), .val (.int (own_rem p2 (4 : Int32))), .val (.int (-1 : Int32))] [])) target → Steps p.tables e below (s₁.setTop (mkF m 0 #[.val (.ref a1), .val (.int p2), .val (.int p3), .val (.int p4), .val (.int p5), .val (.int p6), .val (.int p7), .val (.int p8), .unset, .unset, .unset] [])) target := by
    intro target kt
    show Steps p.tables e below (s₁.setTop (mkF m 0 #[.val (.ref a1), .val (.int p2), .val (.int p3), .val (.int p4), .val (.int p5), .val (.int p6), .val (.int p7), .val (.int p8), .unset, .unset, .unset] [])) _
    refine XS.iloadN X0.here hx rfl (hb hby d14_0) rfl ?_
    show Steps p.tables e below (s₁.setTop (mkF m 1 #[.val (.ref a1), .val (.int p2), .val (.int p3), .val (.int p4), .val (.int p5), .val (.int p6), .val (.int p7), .val (.int p8), .unset, .unset, .unset] [(.int p2)])) _
    refine XS.iconst X0.here hx rfl (hb hby d14_1) ?_
    show Steps p.tables e below (s₁.setTop (mkF m 2 #[.val (.ref a1), .val (.int p2), .val (.int p3), .val (.int p4), .val (.int p5), .val (.int p6), .val (.int p7), .val (.int p8), .unset, .unset, .unset] [(.int (4 : Int32)), (.int p2)])) _
    refine XS.idiv X0.here hx rfl (hb hby d14_2) rfl hy2_1 ?_
    show Steps p.tables e below (s₁.setTop (mkF m 3 #[.val (.ref a1), .val (.int p2), .val (.int p3), .val (.int p4), .val (.int p5), .val (.int p6), .val (.int p7), .val (.int p8), .unset, .unset, .unset] [(.int (own_div p2 (4 : Int32)))])) _
    refine XS.istore X0.here hx rfl (hb hby d14_3) rfl (l' := #[.val (.ref a1), .val (.int p2), .val (.int p3), .val (.int p4), .val (.int p5), .val (.int p6), .val (.int p7), .val (.int p8), .val (.int (own_div p2 (4 : Int32))), .unset, .unset]) rfl ?_
    show Steps p.tables e below (s₁.setTop (mkF m 5 #[.val (.ref a1), .val (.int p2), .val (.int p3), .val (.int p4), .val (.int p5), .val (.int p6), .val (.int p7), .val (.int p8), .val (.int (own_div p2 (4 : Int32))), .unset, .unset] [])) _
    refine XS.iloadN X0.here hx rfl (hb hby d14_5) rfl ?_
    show Steps p.tables e below (s₁.setTop (mkF m 6 #[.val (.ref a1), .val (.int p2), .val (.int p3), .val (.int p4), .val (.int p5), .val (.int p6), .val (.int p7), .val (.int p8), .val (.int (own_div p2 (4 : Int32))), .unset, .unset] [(.int p2)])) _
    refine XS.iconst X0.here hx rfl (hb hby d14_6) ?_
    show Steps p.tables e below (s₁.setTop (mkF m 7 #[.val (.ref a1), .val (.int p2), .val (.int p3), .val (.int p4), .val (.int p5), .val (.int p6), .val (.int p7), .val (.int p8), .val (.int (own_div p2 (4 : Int32))), .unset, .unset] [(.int (4 : Int32)), (.int p2)])) _
    refine XS.irem X0.here hx rfl (hb hby d14_7) rfl hy7_1 ?_
    show Steps p.tables e below (s₁.setTop (mkF m 8 #[.val (.ref a1), .val (.int p2), .val (.int p3), .val (.int p4), .val (.int p5), .val (.int p6), .val (.int p7), .val (.int p8), .val (.int (own_div p2 (4 : Int32))), .unset, .unset] [(.int (own_rem p2 (4 : Int32)))])) _
    refine XS.istore X0.here hx rfl (hb hby d14_8) rfl (l' := #[.val (.ref a1), .val (.int p2), .val (.int p3), .val (.int p4), .val (.int p5), .val (.int p6), .val (.int p7), .val (.int p8), .val (.int (own_div p2 (4 : Int32))), .val (.int (own_rem p2 (4 : Int32))), .unset]) rfl ?_
    show Steps p.tables e below (s₁.setTop (mkF m 10 #[.val (.ref a1), .val (.int p2), .val (.int p3), .val (.int p4), .val (.int p5), .val (.int p6), .val (.int p7), .val (.int p8), .val (.int (own_div p2 (4 : Int32))), .val (.int (own_rem p2 (4 : Int32))), .unset] [])) _
    refine XS.iconst X0.here hx rfl (hb hby d14_10) ?_
    show Steps p.tables e below (s₁.setTop (mkF m 11 #[.val (.ref a1), .val (.int p2), .val (.int p3), .val (.int p4), .val (.int p5), .val (.int p6), .val (.int p7), .val (.int p8), .val (.int (own_div p2 (4 : Int32))), .val (.int (own_rem p2 (4 : Int32))), .unset] [(.int (-1 : Int32))])) _
    refine XS.istore X0.here hx rfl (hb hby d14_11) rfl (l' := #[.val (.ref a1), .val (.int p2), .val (.int p3), .val (.int p4), .val (.int p5), .val (.int p6), .val (.int p7), .val (.int p8), .val (.int (own_div p2 (4 : Int32))), .val (.int (own_rem p2 (4 : Int32))), .val (.int (-1 : Int32))]) rfl ?_
    exact kt
  obtain ⟨want, hwant, st_9p⟩ : ∃ (want : Int32), (want = (own_want (own_div p2 (4 : Int32)) (own_rem p2 (4 : Int32)) p3 p4 p5 p6 p7 p8)) ∧ ∀ target, Steps p.tables e below (s₁.setTop (mkF m 57 #[.val (.ref a1), .val (.int p2), .val (.int p3), .val (.int p4), .val (.int p5), .val (.int p6), .val (.int p7), .val (.int p8), .val (.int (own_div p2 (4 : Int32))), .val (.int (own_rem p2 (4 : Int32))), .val (.int want)] [])) target → Steps p.tables e below (s₁.setTop (mkF m 13 #[.val (.ref a1), .val (.int p2), .val (.int p3), .val (.int p4), .val (.int p5), .val (.int p6), .val (.int p7), .val (.int p8), .val (.int (own_div p2 (4 : Int32))), .val (.int (own_rem p2 (4 : Int32))), .val (.int (-1 : Int32))] [])) target := by
    by_cases hc15 : (own_div p2 (4 : Int32)) = (0 : Int32)
    · by_cases hc19 : p3 = (0 : Int32)
      · by_cases hc38 : (own_div p2 (4 : Int32)) = (1 : Int32)
        · exact absurd (hc15.symm.trans hc38) (by decide)
        · refine ⟨(-1 : Int32), by simp [own_want, hc15, hc19], fun target kt => ?_⟩
          show Steps p.tables e below (s₁.setTop (mkF m 13 #[.val (.ref a1), .val (.int p2), .val (.int p3), .val (.int p4), .val (.int p5), .val (.int p6), .val (.int p7), .val (.int p8), .val (.int (own_div p2 (4 : Int32))), .val (.int (own_rem p2 (4 : Int32))), .val (.int (-1 : Int32))] [])) _
          refine XS.iload X0.here hx rfl (hb hby d14_13) rfl ?_
          show Steps p.tables e below (s₁.setTop (mkF m 15 #[.val (.ref a1), .val (.int p2), .val (.int p3), .val (.int p4), .val (.int p5), .val (.int p6), .val (.int p7), .val (.int p8), .val (.int (own_div p2 (4 : Int32))), .val (.int (own_rem p2 (4 : Int32))), .val (.int (-1 : Int32))] [(.int (own_div p2 (4 : Int32)))])) _
          refine XS.ifNo X0.here hx rfl (hb hby d14_15) rfl ((if0 _ _).trans (teq hc15).2) ?_
          show Steps p.tables e below (s₁.setTop (mkF m 18 #[.val (.ref a1), .val (.int p2), .val (.int p3), .val (.int p4), .val (.int p5), .val (.int p6), .val (.int p7), .val (.int p8), .val (.int (own_div p2 (4 : Int32))), .val (.int (own_rem p2 (4 : Int32))), .val (.int (-1 : Int32))] [])) _
          refine XS.iloadN X0.here hx rfl (hb hby d14_18) rfl ?_
          show Steps p.tables e below (s₁.setTop (mkF m 19 #[.val (.ref a1), .val (.int p2), .val (.int p3), .val (.int p4), .val (.int p5), .val (.int p6), .val (.int p7), .val (.int p8), .val (.int (own_div p2 (4 : Int32))), .val (.int (own_rem p2 (4 : Int32))), .val (.int (-1 : Int32))] [(.int p3)])) _
          refine XS.ifYes X0.here hx rfl (pc0 := 19) (pc' := 35) rfl (hb hby d14_19) rfl ((if0 _ _).trans (teq hc19).1) (by decide) (by decide) ?_
          show Steps p.tables e below (s₁.setTop (mkF m 35 #[.val (.ref a1), .val (.int p2), .val (.int p3), .val (.int p4), .val (.int p5), .val (.int p6), .val (.int p7), .val (.int p8), .val (.int (own_div p2 (4 : Int32))), .val (.int (own_rem p2 (4 : Int32))), .val (.int (-1 : Int32))] [])) _
          refine XS.iload X0.here hx rfl (hb hby d14_35) rfl ?_
          show Steps p.tables e below (s₁.setTop (mkF m 37 #[.val (.ref a1), .val (.int p2), .val (.int p3), .val (.int p4), .val (.int p5), .val (.int p6), .val (.int p7), .val (.int p8), .val (.int (own_div p2 (4 : Int32))), .val (.int (own_rem p2 (4 : Int32))), .val (.int (-1 : Int32))] [(.int (own_div p2 (4 : Int32)))])) _
          refine XS.iconst X0.here hx rfl (hb hby d14_37) ?_
          show Steps p.tables e below (s₁.setTop (mkF m 38 #[.val (.ref a1), .val (.int p2), .val (.int p3), .val (.int p4), .val (.int p5), .val (.int p6), .val (.int p7), .val (.int p8), .val (.int (own_div p2 (4 : Int32))), .val (.int (own_rem p2 (4 : Int32))), .val (.int (-1 : Int32))] [(.int (1 : Int32)), (.int (own_div p2 (4 : Int32)))])) _
          refine XS.icmpYes X0.here hx rfl (pc0 := 38) (pc' := 57) rfl (hb hby d14_38) rfl (feq hc38).2 (by decide) (by decide) ?_
          exact kt
      · by_cases hc26 : (own_rem p2 (4 : Int32)) = p5
        · refine ⟨p4, by simp [own_want, hc15, hc19, hc26], fun target kt => ?_⟩
          show Steps p.tables e below (s₁.setTop (mkF m 13 #[.val (.ref a1), .val (.int p2), .val (.int p3), .val (.int p4), .val (.int p5), .val (.int p6), .val (.int p7), .val (.int p8), .val (.int (own_div p2 (4 : Int32))), .val (.int (own_rem p2 (4 : Int32))), .val (.int (-1 : Int32))] [])) _
          refine XS.iload X0.here hx rfl (hb hby d14_13) rfl ?_
          show Steps p.tables e below (s₁.setTop (mkF m 15 #[.val (.ref a1), .val (.int p2), .val (.int p3), .val (.int p4), .val (.int p5), .val (.int p6), .val (.int p7), .val (.int p8), .val (.int (own_div p2 (4 : Int32))), .val (.int (own_rem p2 (4 : Int32))), .val (.int (-1 : Int32))] [(.int (own_div p2 (4 : Int32)))])) _
          refine XS.ifNo X0.here hx rfl (hb hby d14_15) rfl ((if0 _ _).trans (teq hc15).2) ?_
          show Steps p.tables e below (s₁.setTop (mkF m 18 #[.val (.ref a1), .val (.int p2), .val (.int p3), .val (.int p4), .val (.int p5), .val (.int p6), .val (.int p7), .val (.int p8), .val (.int (own_div p2 (4 : Int32))), .val (.int (own_rem p2 (4 : Int32))), .val (.int (-1 : Int32))] [])) _
          refine XS.iloadN X0.here hx rfl (hb hby d14_18) rfl ?_
          show Steps p.tables e below (s₁.setTop (mkF m 19 #[.val (.ref a1), .val (.int p2), .val (.int p3), .val (.int p4), .val (.int p5), .val (.int p6), .val (.int p7), .val (.int p8), .val (.int (own_div p2 (4 : Int32))), .val (.int (own_rem p2 (4 : Int32))), .val (.int (-1 : Int32))] [(.int p3)])) _
          refine XS.ifNo X0.here hx rfl (hb hby d14_19) rfl ((if0 _ _).trans (feq hc19).1) ?_
          show Steps p.tables e below (s₁.setTop (mkF m 22 #[.val (.ref a1), .val (.int p2), .val (.int p3), .val (.int p4), .val (.int p5), .val (.int p6), .val (.int p7), .val (.int p8), .val (.int (own_div p2 (4 : Int32))), .val (.int (own_rem p2 (4 : Int32))), .val (.int (-1 : Int32))] [])) _
          refine XS.iload X0.here hx rfl (hb hby d14_22) rfl ?_
          show Steps p.tables e below (s₁.setTop (mkF m 24 #[.val (.ref a1), .val (.int p2), .val (.int p3), .val (.int p4), .val (.int p5), .val (.int p6), .val (.int p7), .val (.int p8), .val (.int (own_div p2 (4 : Int32))), .val (.int (own_rem p2 (4 : Int32))), .val (.int (-1 : Int32))] [(.int (own_rem p2 (4 : Int32)))])) _
          refine XS.iload X0.here hx rfl (hb hby d14_24) rfl ?_
          show Steps p.tables e below (s₁.setTop (mkF m 26 #[.val (.ref a1), .val (.int p2), .val (.int p3), .val (.int p4), .val (.int p5), .val (.int p6), .val (.int p7), .val (.int p8), .val (.int (own_div p2 (4 : Int32))), .val (.int (own_rem p2 (4 : Int32))), .val (.int (-1 : Int32))] [(.int p5), (.int (own_rem p2 (4 : Int32)))])) _
          refine XS.icmpNo X0.here hx rfl (hb hby d14_26) rfl (teq hc26).2 ?_
          show Steps p.tables e below (s₁.setTop (mkF m 29 #[.val (.ref a1), .val (.int p2), .val (.int p3), .val (.int p4), .val (.int p5), .val (.int p6), .val (.int p7), .val (.int p8), .val (.int (own_div p2 (4 : Int32))), .val (.int (own_rem p2 (4 : Int32))), .val (.int (-1 : Int32))] [])) _
          refine XS.iloadN X0.here hx rfl (hb hby d14_29) rfl ?_
          show Steps p.tables e below (s₁.setTop (mkF m 30 #[.val (.ref a1), .val (.int p2), .val (.int p3), .val (.int p4), .val (.int p5), .val (.int p6), .val (.int p7), .val (.int p8), .val (.int (own_div p2 (4 : Int32))), .val (.int (own_rem p2 (4 : Int32))), .val (.int (-1 : Int32))] [(.int p4)])) _
          refine XS.istore X0.here hx rfl (hb hby d14_30) rfl (l' := #[.val (.ref a1), .val (.int p2), .val (.int p3), .val (.int p4), .val (.int p5), .val (.int p6), .val (.int p7), .val (.int p8), .val (.int (own_div p2 (4 : Int32))), .val (.int (own_rem p2 (4 : Int32))), .val (.int p4)]) rfl ?_
          show Steps p.tables e below (s₁.setTop (mkF m 32 #[.val (.ref a1), .val (.int p2), .val (.int p3), .val (.int p4), .val (.int p5), .val (.int p6), .val (.int p7), .val (.int p8), .val (.int (own_div p2 (4 : Int32))), .val (.int (own_rem p2 (4 : Int32))), .val (.int p4)] [])) _
          refine XS.goto X0.here hx rfl (pc0 := 32) (pc' := 57) rfl (hb hby d14_32) (by decide) (by decide) ?_
          exact kt
        · by_cases hc38 : (own_div p2 (4 : Int32)) = (1 : Int32)
          · exact absurd (hc15.symm.trans hc38) (by decide)
          · refine ⟨(-1 : Int32), by simp [own_want, hc15, hc19, hc26], fun target kt => ?_⟩
            show Steps p.tables e below (s₁.setTop (mkF m 13 #[.val (.ref a1), .val (.int p2), .val (.int p3), .val (.int p4), .val (.int p5), .val (.int p6), .val (.int p7), .val (.int p8), .val (.int (own_div p2 (4 : Int32))), .val (.int (own_rem p2 (4 : Int32))), .val (.int (-1 : Int32))] [])) _
            refine XS.iload X0.here hx rfl (hb hby d14_13) rfl ?_
            show Steps p.tables e below (s₁.setTop (mkF m 15 #[.val (.ref a1), .val (.int p2), .val (.int p3), .val (.int p4), .val (.int p5), .val (.int p6), .val (.int p7), .val (.int p8), .val (.int (own_div p2 (4 : Int32))), .val (.int (own_rem p2 (4 : Int32))), .val (.int (-1 : Int32))] [(.int (own_div p2 (4 : Int32)))])) _
            refine XS.ifNo X0.here hx rfl (hb hby d14_15) rfl ((if0 _ _).trans (teq hc15).2) ?_
            show Steps p.tables e below (s₁.setTop (mkF m 18 #[.val (.ref a1), .val (.int p2), .val (.int p3), .val (.int p4), .val (.int p5), .val (.int p6), .val (.int p7), .val (.int p8), .val (.int (own_div p2 (4 : Int32))), .val (.int (own_rem p2 (4 : Int32))), .val (.int (-1 : Int32))] [])) _
            refine XS.iloadN X0.here hx rfl (hb hby d14_18) rfl ?_
            show Steps p.tables e below (s₁.setTop (mkF m 19 #[.val (.ref a1), .val (.int p2), .val (.int p3), .val (.int p4), .val (.int p5), .val (.int p6), .val (.int p7), .val (.int p8), .val (.int (own_div p2 (4 : Int32))), .val (.int (own_rem p2 (4 : Int32))), .val (.int (-1 : Int32))] [(.int p3)])) _
            refine XS.ifNo X0.here hx rfl (hb hby d14_19) rfl ((if0 _ _).trans (feq hc19).1) ?_
            show Steps p.tables e below (s₁.setTop (mkF m 22 #[.val (.ref a1), .val (.int p2), .val (.int p3), .val (.int p4), .val (.int p5), .val (.int p6), .val (.int p7), .val (.int p8), .val (.int (own_div p2 (4 : Int32))), .val (.int (own_rem p2 (4 : Int32))), .val (.int (-1 : Int32))] [])) _
            refine XS.iload X0.here hx rfl (hb hby d14_22) rfl ?_
            show Steps p.tables e below (s₁.setTop (mkF m 24 #[.val (.ref a1), .val (.int p2), .val (.int p3), .val (.int p4), .val (.int p5), .val (.int p6), .val (.int p7), .val (.int p8), .val (.int (own_div p2 (4 : Int32))), .val (.int (own_rem p2 (4 : Int32))), .val (.int (-1 : Int32))] [(.int (own_rem p2 (4 : Int32)))])) _
            refine XS.iload X0.here hx rfl (hb hby d14_24) rfl ?_
            show Steps p.tables e below (s₁.setTop (mkF m 26 #[.val (.ref a1), .val (.int p2), .val (.int p3), .val (.int p4), .val (.int p5), .val (.int p6), .val (.int p7), .val (.int p8), .val (.int (own_div p2 (4 : Int32))), .val (.int (own_rem p2 (4 : Int32))), .val (.int (-1 : Int32))] [(.int p5), (.int (own_rem p2 (4 : Int32)))])) _
            refine XS.icmpYes X0.here hx rfl (pc0 := 26) (pc' := 35) rfl (hb hby d14_26) rfl (feq hc26).2 (by decide) (by decide) ?_
            show Steps p.tables e below (s₁.setTop (mkF m 35 #[.val (.ref a1), .val (.int p2), .val (.int p3), .val (.int p4), .val (.int p5), .val (.int p6), .val (.int p7), .val (.int p8), .val (.int (own_div p2 (4 : Int32))), .val (.int (own_rem p2 (4 : Int32))), .val (.int (-1 : Int32))] [])) _
            refine XS.iload X0.here hx rfl (hb hby d14_35) rfl ?_
            show Steps p.tables e below (s₁.setTop (mkF m 37 #[.val (.ref a1), .val (.int p2), .val (.int p3), .val (.int p4), .val (.int p5), .val (.int p6), .val (.int p7), .val (.int p8), .val (.int (own_div p2 (4 : Int32))), .val (.int (own_rem p2 (4 : Int32))), .val (.int (-1 : Int32))] [(.int (own_div p2 (4 : Int32)))])) _
            refine XS.iconst X0.here hx rfl (hb hby d14_37) ?_
            show Steps p.tables e below (s₁.setTop (mkF m 38 #[.val (.ref a1), .val (.int p2), .val (.int p3), .val (.int p4), .val (.int p5), .val (.int p6), .val (.int p7), .val (.int p8), .val (.int (own_div p2 (4 : Int32))), .val (.int (own_rem p2 (4 : Int32))), .val (.int (-1 : Int32))] [(.int (1 : Int32)), (.int (own_div p2 (4 : Int32)))])) _
            refine XS.icmpYes X0.here hx rfl (pc0 := 38) (pc' := 57) rfl (hb hby d14_38) rfl (feq hc38).2 (by decide) (by decide) ?_
            exact kt
    · by_cases hc38 : (own_div p2 (4 : Int32)) = (1 : Int32)
      · by_cases hc43 : p6 = (0 : Int32)
        · refine ⟨(-1 : Int32), by simp [own_want, hc15, hc38, hc43], fun target kt => ?_⟩
          show Steps p.tables e below (s₁.setTop (mkF m 13 #[.val (.ref a1), .val (.int p2), .val (.int p3), .val (.int p4), .val (.int p5), .val (.int p6), .val (.int p7), .val (.int p8), .val (.int (own_div p2 (4 : Int32))), .val (.int (own_rem p2 (4 : Int32))), .val (.int (-1 : Int32))] [])) _
          refine XS.iload X0.here hx rfl (hb hby d14_13) rfl ?_
          show Steps p.tables e below (s₁.setTop (mkF m 15 #[.val (.ref a1), .val (.int p2), .val (.int p3), .val (.int p4), .val (.int p5), .val (.int p6), .val (.int p7), .val (.int p8), .val (.int (own_div p2 (4 : Int32))), .val (.int (own_rem p2 (4 : Int32))), .val (.int (-1 : Int32))] [(.int (own_div p2 (4 : Int32)))])) _
          refine XS.ifYes X0.here hx rfl (pc0 := 15) (pc' := 35) rfl (hb hby d14_15) rfl ((if0 _ _).trans (feq hc15).2) (by decide) (by decide) ?_
          show Steps p.tables e below (s₁.setTop (mkF m 35 #[.val (.ref a1), .val (.int p2), .val (.int p3), .val (.int p4), .val (.int p5), .val (.int p6), .val (.int p7), .val (.int p8), .val (.int (own_div p2 (4 : Int32))), .val (.int (own_rem p2 (4 : Int32))), .val (.int (-1 : Int32))] [])) _
          refine XS.iload X0.here hx rfl (hb hby d14_35) rfl ?_
          show Steps p.tables e below (s₁.setTop (mkF m 37 #[.val (.ref a1), .val (.int p2), .val (.int p3), .val (.int p4), .val (.int p5), .val (.int p6), .val (.int p7), .val (.int p8), .val (.int (own_div p2 (4 : Int32))), .val (.int (own_rem p2 (4 : Int32))), .val (.int (-1 : Int32))] [(.int (own_div p2 (4 : Int32)))])) _
          refine XS.iconst X0.here hx rfl (hb hby d14_37) ?_
          show Steps p.tables e below (s₁.setTop (mkF m 38 #[.val (.ref a1), .val (.int p2), .val (.int p3), .val (.int p4), .val (.int p5), .val (.int p6), .val (.int p7), .val (.int p8), .val (.int (own_div p2 (4 : Int32))), .val (.int (own_rem p2 (4 : Int32))), .val (.int (-1 : Int32))] [(.int (1 : Int32)), (.int (own_div p2 (4 : Int32)))])) _
          refine XS.icmpNo X0.here hx rfl (hb hby d14_38) rfl (teq hc38).2 ?_
          show Steps p.tables e below (s₁.setTop (mkF m 41 #[.val (.ref a1), .val (.int p2), .val (.int p3), .val (.int p4), .val (.int p5), .val (.int p6), .val (.int p7), .val (.int p8), .val (.int (own_div p2 (4 : Int32))), .val (.int (own_rem p2 (4 : Int32))), .val (.int (-1 : Int32))] [])) _
          refine XS.iload X0.here hx rfl (hb hby d14_41) rfl ?_
          show Steps p.tables e below (s₁.setTop (mkF m 43 #[.val (.ref a1), .val (.int p2), .val (.int p3), .val (.int p4), .val (.int p5), .val (.int p6), .val (.int p7), .val (.int p8), .val (.int (own_div p2 (4 : Int32))), .val (.int (own_rem p2 (4 : Int32))), .val (.int (-1 : Int32))] [(.int p6)])) _
          refine XS.ifYes X0.here hx rfl (pc0 := 43) (pc' := 57) rfl (hb hby d14_43) rfl ((if0 _ _).trans (teq hc43).1) (by decide) (by decide) ?_
          exact kt
        · by_cases hc50 : (own_rem p2 (4 : Int32)) = p8
          · refine ⟨p7, by simp [own_want, hc15, hc38, hc43, hc50], fun target kt => ?_⟩
            show Steps p.tables e below (s₁.setTop (mkF m 13 #[.val (.ref a1), .val (.int p2), .val (.int p3), .val (.int p4), .val (.int p5), .val (.int p6), .val (.int p7), .val (.int p8), .val (.int (own_div p2 (4 : Int32))), .val (.int (own_rem p2 (4 : Int32))), .val (.int (-1 : Int32))] [])) _
            refine XS.iload X0.here hx rfl (hb hby d14_13) rfl ?_
            show Steps p.tables e below (s₁.setTop (mkF m 15 #[.val (.ref a1), .val (.int p2), .val (.int p3), .val (.int p4), .val (.int p5), .val (.int p6), .val (.int p7), .val (.int p8), .val (.int (own_div p2 (4 : Int32))), .val (.int (own_rem p2 (4 : Int32))), .val (.int (-1 : Int32))] [(.int (own_div p2 (4 : Int32)))])) _
            refine XS.ifYes X0.here hx rfl (pc0 := 15) (pc' := 35) rfl (hb hby d14_15) rfl ((if0 _ _).trans (feq hc15).2) (by decide) (by decide) ?_
            show Steps p.tables e below (s₁.setTop (mkF m 35 #[.val (.ref a1), .val (.int p2), .val (.int p3), .val (.int p4), .val (.int p5), .val (.int p6), .val (.int p7), .val (.int p8), .val (.int (own_div p2 (4 : Int32))), .val (.int (own_rem p2 (4 : Int32))), .val (.int (-1 : Int32))] [])) _
            refine XS.iload X0.here hx rfl (hb hby d14_35) rfl ?_
            show Steps p.tables e below (s₁.setTop (mkF m 37 #[.val (.ref a1), .val (.int p2), .val (.int p3), .val (.int p4), .val (.int p5), .val (.int p6), .val (.int p7), .val (.int p8), .val (.int (own_div p2 (4 : Int32))), .val (.int (own_rem p2 (4 : Int32))), .val (.int (-1 : Int32))] [(.int (own_div p2 (4 : Int32)))])) _
            refine XS.iconst X0.here hx rfl (hb hby d14_37) ?_
            show Steps p.tables e below (s₁.setTop (mkF m 38 #[.val (.ref a1), .val (.int p2), .val (.int p3), .val (.int p4), .val (.int p5), .val (.int p6), .val (.int p7), .val (.int p8), .val (.int (own_div p2 (4 : Int32))), .val (.int (own_rem p2 (4 : Int32))), .val (.int (-1 : Int32))] [(.int (1 : Int32)), (.int (own_div p2 (4 : Int32)))])) _
            refine XS.icmpNo X0.here hx rfl (hb hby d14_38) rfl (teq hc38).2 ?_
            show Steps p.tables e below (s₁.setTop (mkF m 41 #[.val (.ref a1), .val (.int p2), .val (.int p3), .val (.int p4), .val (.int p5), .val (.int p6), .val (.int p7), .val (.int p8), .val (.int (own_div p2 (4 : Int32))), .val (.int (own_rem p2 (4 : Int32))), .val (.int (-1 : Int32))] [])) _
            refine XS.iload X0.here hx rfl (hb hby d14_41) rfl ?_
            show Steps p.tables e below (s₁.setTop (mkF m 43 #[.val (.ref a1), .val (.int p2), .val (.int p3), .val (.int p4), .val (.int p5), .val (.int p6), .val (.int p7), .val (.int p8), .val (.int (own_div p2 (4 : Int32))), .val (.int (own_rem p2 (4 : Int32))), .val (.int (-1 : Int32))] [(.int p6)])) _
            refine XS.ifNo X0.here hx rfl (hb hby d14_43) rfl ((if0 _ _).trans (feq hc43).1) ?_
            show Steps p.tables e below (s₁.setTop (mkF m 46 #[.val (.ref a1), .val (.int p2), .val (.int p3), .val (.int p4), .val (.int p5), .val (.int p6), .val (.int p7), .val (.int p8), .val (.int (own_div p2 (4 : Int32))), .val (.int (own_rem p2 (4 : Int32))), .val (.int (-1 : Int32))] [])) _
            refine XS.iload X0.here hx rfl (hb hby d14_46) rfl ?_
            show Steps p.tables e below (s₁.setTop (mkF m 48 #[.val (.ref a1), .val (.int p2), .val (.int p3), .val (.int p4), .val (.int p5), .val (.int p6), .val (.int p7), .val (.int p8), .val (.int (own_div p2 (4 : Int32))), .val (.int (own_rem p2 (4 : Int32))), .val (.int (-1 : Int32))] [(.int (own_rem p2 (4 : Int32)))])) _
            refine XS.iload X0.here hx rfl (hb hby d14_48) rfl ?_
            show Steps p.tables e below (s₁.setTop (mkF m 50 #[.val (.ref a1), .val (.int p2), .val (.int p3), .val (.int p4), .val (.int p5), .val (.int p6), .val (.int p7), .val (.int p8), .val (.int (own_div p2 (4 : Int32))), .val (.int (own_rem p2 (4 : Int32))), .val (.int (-1 : Int32))] [(.int p8), (.int (own_rem p2 (4 : Int32)))])) _
            refine XS.icmpNo X0.here hx rfl (hb hby d14_50) rfl (teq hc50).2 ?_
            show Steps p.tables e below (s₁.setTop (mkF m 53 #[.val (.ref a1), .val (.int p2), .val (.int p3), .val (.int p4), .val (.int p5), .val (.int p6), .val (.int p7), .val (.int p8), .val (.int (own_div p2 (4 : Int32))), .val (.int (own_rem p2 (4 : Int32))), .val (.int (-1 : Int32))] [])) _
            refine XS.iload X0.here hx rfl (hb hby d14_53) rfl ?_
            show Steps p.tables e below (s₁.setTop (mkF m 55 #[.val (.ref a1), .val (.int p2), .val (.int p3), .val (.int p4), .val (.int p5), .val (.int p6), .val (.int p7), .val (.int p8), .val (.int (own_div p2 (4 : Int32))), .val (.int (own_rem p2 (4 : Int32))), .val (.int (-1 : Int32))] [(.int p7)])) _
            refine XS.istore X0.here hx rfl (hb hby d14_55) rfl (l' := #[.val (.ref a1), .val (.int p2), .val (.int p3), .val (.int p4), .val (.int p5), .val (.int p6), .val (.int p7), .val (.int p8), .val (.int (own_div p2 (4 : Int32))), .val (.int (own_rem p2 (4 : Int32))), .val (.int p7)]) rfl ?_
            exact kt
          · refine ⟨(-1 : Int32), by simp [own_want, hc15, hc38, hc43, hc50], fun target kt => ?_⟩
            show Steps p.tables e below (s₁.setTop (mkF m 13 #[.val (.ref a1), .val (.int p2), .val (.int p3), .val (.int p4), .val (.int p5), .val (.int p6), .val (.int p7), .val (.int p8), .val (.int (own_div p2 (4 : Int32))), .val (.int (own_rem p2 (4 : Int32))), .val (.int (-1 : Int32))] [])) _
            refine XS.iload X0.here hx rfl (hb hby d14_13) rfl ?_
            show Steps p.tables e below (s₁.setTop (mkF m 15 #[.val (.ref a1), .val (.int p2), .val (.int p3), .val (.int p4), .val (.int p5), .val (.int p6), .val (.int p7), .val (.int p8), .val (.int (own_div p2 (4 : Int32))), .val (.int (own_rem p2 (4 : Int32))), .val (.int (-1 : Int32))] [(.int (own_div p2 (4 : Int32)))])) _
            refine XS.ifYes X0.here hx rfl (pc0 := 15) (pc' := 35) rfl (hb hby d14_15) rfl ((if0 _ _).trans (feq hc15).2) (by decide) (by decide) ?_
            show Steps p.tables e below (s₁.setTop (mkF m 35 #[.val (.ref a1), .val (.int p2), .val (.int p3), .val (.int p4), .val (.int p5), .val (.int p6), .val (.int p7), .val (.int p8), .val (.int (own_div p2 (4 : Int32))), .val (.int (own_rem p2 (4 : Int32))), .val (.int (-1 : Int32))] [])) _
            refine XS.iload X0.here hx rfl (hb hby d14_35) rfl ?_
            show Steps p.tables e below (s₁.setTop (mkF m 37 #[.val (.ref a1), .val (.int p2), .val (.int p3), .val (.int p4), .val (.int p5), .val (.int p6), .val (.int p7), .val (.int p8), .val (.int (own_div p2 (4 : Int32))), .val (.int (own_rem p2 (4 : Int32))), .val (.int (-1 : Int32))] [(.int (own_div p2 (4 : Int32)))])) _
            refine XS.iconst X0.here hx rfl (hb hby d14_37) ?_
            show Steps p.tables e below (s₁.setTop (mkF m 38 #[.val (.ref a1), .val (.int p2), .val (.int p3), .val (.int p4), .val (.int p5), .val (.int p6), .val (.int p7), .val (.int p8), .val (.int (own_div p2 (4 : Int32))), .val (.int (own_rem p2 (4 : Int32))), .val (.int (-1 : Int32))] [(.int (1 : Int32)), (.int (own_div p2 (4 : Int32)))])) _
            refine XS.icmpNo X0.here hx rfl (hb hby d14_38) rfl (teq hc38).2 ?_
            show Steps p.tables e below (s₁.setTop (mkF m 41 #[.val (.ref a1), .val (.int p2), .val (.int p3), .val (.int p4), .val (.int p5), .val (.int p6), .val (.int p7), .val (.int p8), .val (.int (own_div p2 (4 : Int32))), .val (.int (own_rem p2 (4 : Int32))), .val (.int (-1 : Int32))] [])) _
            refine XS.iload X0.here hx rfl (hb hby d14_41) rfl ?_
            show Steps p.tables e below (s₁.setTop (mkF m 43 #[.val (.ref a1), .val (.int p2), .val (.int p3), .val (.int p4), .val (.int p5), .val (.int p6), .val (.int p7), .val (.int p8), .val (.int (own_div p2 (4 : Int32))), .val (.int (own_rem p2 (4 : Int32))), .val (.int (-1 : Int32))] [(.int p6)])) _
            refine XS.ifNo X0.here hx rfl (hb hby d14_43) rfl ((if0 _ _).trans (feq hc43).1) ?_
            show Steps p.tables e below (s₁.setTop (mkF m 46 #[.val (.ref a1), .val (.int p2), .val (.int p3), .val (.int p4), .val (.int p5), .val (.int p6), .val (.int p7), .val (.int p8), .val (.int (own_div p2 (4 : Int32))), .val (.int (own_rem p2 (4 : Int32))), .val (.int (-1 : Int32))] [])) _
            refine XS.iload X0.here hx rfl (hb hby d14_46) rfl ?_
            show Steps p.tables e below (s₁.setTop (mkF m 48 #[.val (.ref a1), .val (.int p2), .val (.int p3), .val (.int p4), .val (.int p5), .val (.int p6), .val (.int p7), .val (.int p8), .val (.int (own_div p2 (4 : Int32))), .val (.int (own_rem p2 (4 : Int32))), .val (.int (-1 : Int32))] [(.int (own_rem p2 (4 : Int32)))])) _
            refine XS.iload X0.here hx rfl (hb hby d14_48) rfl ?_
            show Steps p.tables e below (s₁.setTop (mkF m 50 #[.val (.ref a1), .val (.int p2), .val (.int p3), .val (.int p4), .val (.int p5), .val (.int p6), .val (.int p7), .val (.int p8), .val (.int (own_div p2 (4 : Int32))), .val (.int (own_rem p2 (4 : Int32))), .val (.int (-1 : Int32))] [(.int p8), (.int (own_rem p2 (4 : Int32)))])) _
            refine XS.icmpYes X0.here hx rfl (pc0 := 50) (pc' := 57) rfl (hb hby d14_50) rfl (feq hc50).2 (by decide) (by decide) ?_
            exact kt
      · refine ⟨(-1 : Int32), by simp [own_want, hc15, hc38], fun target kt => ?_⟩
        show Steps p.tables e below (s₁.setTop (mkF m 13 #[.val (.ref a1), .val (.int p2), .val (.int p3), .val (.int p4), .val (.int p5), .val (.int p6), .val (.int p7), .val (.int p8), .val (.int (own_div p2 (4 : Int32))), .val (.int (own_rem p2 (4 : Int32))), .val (.int (-1 : Int32))] [])) _
        refine XS.iload X0.here hx rfl (hb hby d14_13) rfl ?_
        show Steps p.tables e below (s₁.setTop (mkF m 15 #[.val (.ref a1), .val (.int p2), .val (.int p3), .val (.int p4), .val (.int p5), .val (.int p6), .val (.int p7), .val (.int p8), .val (.int (own_div p2 (4 : Int32))), .val (.int (own_rem p2 (4 : Int32))), .val (.int (-1 : Int32))] [(.int (own_div p2 (4 : Int32)))])) _
        refine XS.ifYes X0.here hx rfl (pc0 := 15) (pc' := 35) rfl (hb hby d14_15) rfl ((if0 _ _).trans (feq hc15).2) (by decide) (by decide) ?_
        show Steps p.tables e below (s₁.setTop (mkF m 35 #[.val (.ref a1), .val (.int p2), .val (.int p3), .val (.int p4), .val (.int p5), .val (.int p6), .val (.int p7), .val (.int p8), .val (.int (own_div p2 (4 : Int32))), .val (.int (own_rem p2 (4 : Int32))), .val (.int (-1 : Int32))] [])) _
        refine XS.iload X0.here hx rfl (hb hby d14_35) rfl ?_
        show Steps p.tables e below (s₁.setTop (mkF m 37 #[.val (.ref a1), .val (.int p2), .val (.int p3), .val (.int p4), .val (.int p5), .val (.int p6), .val (.int p7), .val (.int p8), .val (.int (own_div p2 (4 : Int32))), .val (.int (own_rem p2 (4 : Int32))), .val (.int (-1 : Int32))] [(.int (own_div p2 (4 : Int32)))])) _
        refine XS.iconst X0.here hx rfl (hb hby d14_37) ?_
        show Steps p.tables e below (s₁.setTop (mkF m 38 #[.val (.ref a1), .val (.int p2), .val (.int p3), .val (.int p4), .val (.int p5), .val (.int p6), .val (.int p7), .val (.int p8), .val (.int (own_div p2 (4 : Int32))), .val (.int (own_rem p2 (4 : Int32))), .val (.int (-1 : Int32))] [(.int (1 : Int32)), (.int (own_div p2 (4 : Int32)))])) _
        refine XS.icmpYes X0.here hx rfl (pc0 := 38) (pc' := 57) rfl (hb hby d14_38) rfl (feq hc38).2 (by decide) (by decide) ?_
        exact kt
  rw [← hwant] at h1 h2
  clear hwant
  by_cases hw0 : want < (0 : Int32)
  · have hc59_10 : want < (0 : Int32) := hw0
    have hc64_10 : z = (0 : Int32) := h1 hw0
    have st_10p : ∀ target, Steps p.tables e below (s₁.setTop (mkF m 72 #[.val (.ref a1), .val (.int p2), .val (.int p3), .val (.int p4), .val (.int p5), .val (.int p6), .val (.int p7), .val (.int p8), .val (.int (own_div p2 (4 : Int32))), .val (.int (own_rem p2 (4 : Int32))), .val (.int want)] [(.int (1 : Int32))])) target → Steps p.tables e below (s₁.setTop (mkF m 57 #[.val (.ref a1), .val (.int p2), .val (.int p3), .val (.int p4), .val (.int p5), .val (.int p6), .val (.int p7), .val (.int p8), .val (.int (own_div p2 (4 : Int32))), .val (.int (own_rem p2 (4 : Int32))), .val (.int want)] [])) target := by
      intro target kt
      show Steps p.tables e below (s₁.setTop (mkF m 57 #[.val (.ref a1), .val (.int p2), .val (.int p3), .val (.int p4), .val (.int p5), .val (.int p6), .val (.int p7), .val (.int p8), .val (.int (own_div p2 (4 : Int32))), .val (.int (own_rem p2 (4 : Int32))), .val (.int want)] [])) _
      refine XS.iload X0.here hx rfl (hb hby d14_57) rfl ?_
      show Steps p.tables e below (s₁.setTop (mkF m 59 #[.val (.ref a1), .val (.int p2), .val (.int p3), .val (.int p4), .val (.int p5), .val (.int p6), .val (.int p7), .val (.int p8), .val (.int (own_div p2 (4 : Int32))), .val (.int (own_rem p2 (4 : Int32))), .val (.int want)] [(.int want)])) _
      refine XS.ifNo X0.here hx rfl (hb hby d14_59) rfl ((if0 _ _).trans (tlt hc59_10).2.1) ?_
      show Steps p.tables e below (s₁.setTop (mkF m 62 #[.val (.ref a1), .val (.int p2), .val (.int p3), .val (.int p4), .val (.int p5), .val (.int p6), .val (.int p7), .val (.int p8), .val (.int (own_div p2 (4 : Int32))), .val (.int (own_rem p2 (4 : Int32))), .val (.int want)] [])) _
      refine XS.aloadN X0.here hx rfl (hb hby d14_62) rfl rfl ?_
      show Steps p.tables e below (s₁.setTop (mkF m 63 #[.val (.ref a1), .val (.int p2), .val (.int p3), .val (.int p4), .val (.int p5), .val (.int p6), .val (.int p7), .val (.int p8), .val (.int (own_div p2 (4 : Int32))), .val (.int (own_rem p2 (4 : Int32))), .val (.int want)] [(.ref a1)])) _
      refine X0.arraylength hx (by rw [e0]; exact A0.1) (State.isArrayOf_alike hZ.alike A0.2.1) (g := (mkF m 63 #[.val (.ref a1), .val (.int p2), .val (.int p3), .val (.int p4), .val (.int p5), .val (.int p6), .val (.int p7), .val (.int p8), .val (.int (own_div p2 (4 : Int32))), .val (.int (own_rem p2 (4 : Int32))), .val (.int want)] [(.ref a1)])) rfl rfl (hb hby d14_63) _ ?_
      rw [len_of S0 M0]
      show Steps p.tables e below (s₁.setTop (mkF m 64 #[.val (.ref a1), .val (.int p2), .val (.int p3), .val (.int p4), .val (.int p5), .val (.int p6), .val (.int p7), .val (.int p8), .val (.int (own_div p2 (4 : Int32))), .val (.int (own_rem p2 (4 : Int32))), .val (.int want)] [(.int z)])) _
      refine XS.ifNo X0.here hx rfl (hb hby d14_64) rfl ((if0 _ _).trans (teq hc64_10).2) ?_
      show Steps p.tables e below (s₁.setTop (mkF m 67 #[.val (.ref a1), .val (.int p2), .val (.int p3), .val (.int p4), .val (.int p5), .val (.int p6), .val (.int p7), .val (.int p8), .val (.int (own_div p2 (4 : Int32))), .val (.int (own_rem p2 (4 : Int32))), .val (.int want)] [])) _
      refine XS.iconst X0.here hx rfl (hb hby d14_67) ?_
      show Steps p.tables e below (s₁.setTop (mkF m 68 #[.val (.ref a1), .val (.int p2), .val (.int p3), .val (.int p4), .val (.int p5), .val (.int p6), .val (.int p7), .val (.int p8), .val (.int (own_div p2 (4 : Int32))), .val (.int (own_rem p2 (4 : Int32))), .val (.int want)] [(.int (1 : Int32))])) _
      refine XS.goto X0.here hx rfl (pc0 := 68) (pc' := 72) rfl (hb hby d14_68) (by decide) (by decide) ?_
      exact kt
    obtain ⟨fs, hr, hrun, hended, hW, hsame⟩ := X0.leave (v := some (.int (1 : Int32))) (fun h => by rw [Bd.returns] at h; cases h)
    refine ⟨_, _, pre0 _ ?_, hrun, hended, _, _, rfl, ?_, ⟨_, rfl⟩, hW, hsame.mono (by decide) (by decide)⟩
    · show Steps p.tables e below (s₁.setTop (mkF m 0 #[.val (.ref a1), .val (.int p2), .val (.int p3), .val (.int p4), .val (.int p5), .val (.int p6), .val (.int p7), .val (.int p8), .unset, .unset, .unset] [])) _
      refine st_1p _ ?_
      refine st_9p _ ?_
      refine st_10p _ ?_
      exact retN X0 hx (t := .boolean) Bd.returns (by simp) (hb hby d14_72) hr
    · show Q14 Z a1 p2 p3 p4 p5 p6 p7 p8 k z vs h0 n0 _ s₁.heap _
      rw [e0]
      exact ⟨rfl, N0, rfl⟩
  · obtain ⟨hz1, hv1⟩ := h2 hw0
    have hi : ¬ ((0 : Int32) < 0 ∨ c0.slots.size ≤ ((0 : Int32)).toNatClampNeg) := inb_of S0 ⟨by decide, by rw [hz1]; decide⟩
    have hc59_11 : ¬ (want < (0 : Int32)) := hw0
    have hc76_11 : z = (1 : Int32) := hz1
    have hc84_11 : want = want := rfl
    have st_11p : ∀ target, Steps p.tables e below (s₁.setTop (mkF m 92 #[.val (.ref a1), .val (.int p2), .val (.int p3), .val (.int p4), .val (.int p5), .val (.int p6), .val (.int p7), .val (.int p8), .val (.int (own_div p2 (4 : Int32))), .val (.int (own_rem p2 (4 : Int32))), .val (.int want)] [(.int (1 : Int32))])) target → Steps p.tables e below (s₁.setTop (mkF m 57 #[.val (.ref a1), .val (.int p2), .val (.int p3), .val (.int p4), .val (.int p5), .val (.int p6), .val (.int p7), .val (.int p8), .val (.int (own_div p2 (4 : Int32))), .val (.int (own_rem p2 (4 : Int32))), .val (.int want)] [])) target := by
      intro target kt
      show Steps p.tables e below (s₁.setTop (mkF m 57 #[.val (.ref a1), .val (.int p2), .val (.int p3), .val (.int p4), .val (.int p5), .val (.int p6), .val (.int p7), .val (.int p8), .val (.int (own_div p2 (4 : Int32))), .val (.int (own_rem p2 (4 : Int32))), .val (.int want)] [])) _
      refine XS.iload X0.here hx rfl (hb hby d14_57) rfl ?_
      show Steps p.tables e below (s₁.setTop (mkF m 59 #[.val (.ref a1), .val (.int p2), .val (.int p3), .val (.int p4), .val (.int p5), .val (.int p6), .val (.int p7), .val (.int p8), .val (.int (own_div p2 (4 : Int32))), .val (.int (own_rem p2 (4 : Int32))), .val (.int want)] [(.int want)])) _
      refine XS.ifYes X0.here hx rfl (pc0 := 59) (pc' := 73) rfl (hb hby d14_59) rfl ((if0 _ _).trans (flt hc59_11).2.1) (by decide) (by decide) ?_
      show Steps p.tables e below (s₁.setTop (mkF m 73 #[.val (.ref a1), .val (.int p2), .val (.int p3), .val (.int p4), .val (.int p5), .val (.int p6), .val (.int p7), .val (.int p8), .val (.int (own_div p2 (4 : Int32))), .val (.int (own_rem p2 (4 : Int32))), .val (.int want)] [])) _
      refine XS.aloadN X0.here hx rfl (hb hby d14_73) rfl rfl ?_
      show Steps p.tables e below (s₁.setTop (mkF m 74 #[.val (.ref a1), .val (.int p2), .val (.int p3), .val (.int p4), .val (.int p5), .val (.int p6), .val (.int p7), .val (.int p8), .val (.int (own_div p2 (4 : Int32))), .val (.int (own_rem p2 (4 : Int32))), .val (.int want)] [(.ref a1)])) _
      refine X0.arraylength hx (by rw [e0]; exact A0.1) (State.isArrayOf_alike hZ.alike A0.2.1) (g := (mkF m 74 #[.val (.ref a1), .val (.int p2), .val (.int p3), .val (.int p4), .val (.int p5), .val (.int p6), .val (.int p7), .val (.int p8), .val (.int (own_div p2 (4 : Int32))), .val (.int (own_rem p2 (4 : Int32))), .val (.int want)] [(.ref a1)])) rfl rfl (hb hby d14_74) _ ?_
      rw [len_of S0 M0]
      show Steps p.tables e below (s₁.setTop (mkF m 75 #[.val (.ref a1), .val (.int p2), .val (.int p3), .val (.int p4), .val (.int p5), .val (.int p6), .val (.int p7), .val (.int p8), .val (.int (own_div p2 (4 : Int32))), .val (.int (own_rem p2 (4 : Int32))), .val (.int want)] [(.int z)])) _
      refine XS.iconst X0.here hx rfl (hb hby d14_75) ?_
      show Steps p.tables e below (s₁.setTop (mkF m 76 #[.val (.ref a1), .val (.int p2), .val (.int p3), .val (.int p4), .val (.int p5), .val (.int p6), .val (.int p7), .val (.int p8), .val (.int (own_div p2 (4 : Int32))), .val (.int (own_rem p2 (4 : Int32))), .val (.int want)] [(.int (1 : Int32)), (.int z)])) _
      refine XS.icmpNo X0.here hx rfl (hb hby d14_76) rfl (teq hc76_11).2 ?_
      show Steps p.tables e below (s₁.setTop (mkF m 79 #[.val (.ref a1), .val (.int p2), .val (.int p3), .val (.int p4), .val (.int p5), .val (.int p6), .val (.int p7), .val (.int p8), .val (.int (own_div p2 (4 : Int32))), .val (.int (own_rem p2 (4 : Int32))), .val (.int want)] [])) _
      refine XS.aloadN X0.here hx rfl (hb hby d14_79) rfl rfl ?_
      show Steps p.tables e below (s₁.setTop (mkF m 80 #[.val (.ref a1), .val (.int p2), .val (.int p3), .val (.int p4), .val (.int p5), .val (.int p6), .val (.int p7), .val (.int p8), .val (.int (own_div p2 (4 : Int32))), .val (.int (own_rem p2 (4 : Int32))), .val (.int want)] [(.ref a1)])) _
      refine XS.iconst X0.here hx rfl (hb hby d14_80) ?_
      show Steps p.tables e below (s₁.setTop (mkF m 81 #[.val (.ref a1), .val (.int p2), .val (.int p3), .val (.int p4), .val (.int p5), .val (.int p6), .val (.int p7), .val (.int p8), .val (.int (own_div p2 (4 : Int32))), .val (.int (own_rem p2 (4 : Int32))), .val (.int want)] [(.int (0 : Int32)), (.ref a1)])) _
      refine X0.iaload hx (j := (0 : Int32)) (v := (.int want)) (by rw [e0]; exact A0.1) (State.isArrayOf_alike hZ.alike A0.2.1) A0.2.2 hi (Has.at H0 hi hv1) (g := (mkF m 81 #[.val (.ref a1), .val (.int p2), .val (.int p3), .val (.int p4), .val (.int p5), .val (.int p6), .val (.int p7), .val (.int p8), .val (.int (own_div p2 (4 : Int32))), .val (.int (own_rem p2 (4 : Int32))), .val (.int want)] [(.int (0 : Int32)), (.ref a1)])) rfl rfl (hb hby d14_81) _ ?_
      show Steps p.tables e below (s₁.setTop (mkF m 82 #[.val (.ref a1), .val (.int p2), .val (.int p3), .val (.int p4), .val (.int p5), .val (.int p6), .val (.int p7), .val (.int p8), .val (.int (own_div p2 (4 : Int32))), .val (.int (own_rem p2 (4 : Int32))), .val (.int want)] [(.int want)])) _
      refine XS.iload X0.here hx rfl (hb hby d14_82) rfl ?_
      show Steps p.tables e below (s₁.setTop (mkF m 84 #[.val (.ref a1), .val (.int p2), .val (.int p3), .val (.int p4), .val (.int p5), .val (.int p6), .val (.int p7), .val (.int p8), .val (.int (own_div p2 (4 : Int32))), .val (.int (own_rem p2 (4 : Int32))), .val (.int want)] [(.int want), (.int want)])) _
      refine XS.icmpNo X0.here hx rfl (hb hby d14_84) rfl (teq hc84_11).2 ?_
      show Steps p.tables e below (s₁.setTop (mkF m 87 #[.val (.ref a1), .val (.int p2), .val (.int p3), .val (.int p4), .val (.int p5), .val (.int p6), .val (.int p7), .val (.int p8), .val (.int (own_div p2 (4 : Int32))), .val (.int (own_rem p2 (4 : Int32))), .val (.int want)] [])) _
      refine XS.iconst X0.here hx rfl (hb hby d14_87) ?_
      show Steps p.tables e below (s₁.setTop (mkF m 88 #[.val (.ref a1), .val (.int p2), .val (.int p3), .val (.int p4), .val (.int p5), .val (.int p6), .val (.int p7), .val (.int p8), .val (.int (own_div p2 (4 : Int32))), .val (.int (own_rem p2 (4 : Int32))), .val (.int want)] [(.int (1 : Int32))])) _
      refine XS.goto X0.here hx rfl (pc0 := 88) (pc' := 92) rfl (hb hby d14_88) (by decide) (by decide) ?_
      exact kt
    obtain ⟨fs, hr, hrun, hended, hW, hsame⟩ := X0.leave (v := some (.int (1 : Int32))) (fun h => by rw [Bd.returns] at h; cases h)
    refine ⟨_, _, pre0 _ ?_, hrun, hended, _, _, rfl, ?_, ⟨_, rfl⟩, hW, hsame.mono (by decide) (by decide)⟩
    · show Steps p.tables e below (s₁.setTop (mkF m 0 #[.val (.ref a1), .val (.int p2), .val (.int p3), .val (.int p4), .val (.int p5), .val (.int p6), .val (.int p7), .val (.int p8), .unset, .unset, .unset] [])) _
      refine st_1p _ ?_
      refine st_9p _ ?_
      refine st_11p _ ?_
      exact retN X0 hx (t := .boolean) Bd.returns (by simp) (hb hby d14_92) hr
    · show Q14 Z a1 p2 p3 p4 p5 p6 p7 p8 k z vs h0 n0 _ s₁.heap _
      rw [e0]
      exact ⟨rfl, N0, rfl⟩

theorem own_Bc {Z : State} {h : Heap} {la bu ru sa on ow : Addr} {rc br rc' br' : Int32} {rs ss rs' ss' : List Value} {b b' : Int} (S : own_B Z h la bu ru sa on ow rc br rs ss b) (e1 : rc = rc') (e2 : br = br') (e3 : rs = rs') (e4 : ss = ss') (e5 : b ≤ b') : own_B Z h la bu ru sa on ow rc' br' rs' ss' b' := by
  subst e1 e2 e3 e4
  obtain ⟨a1, a2, a3, a4, a5, a6, a7, a8, a9, a10, a11, a12, a13, c, A, s, H⟩ := S
  exact ⟨a1, a2, a3, a4, a5, a6, a7, a8, a9, a10, a11, a12, a13, c, A, s, fun j hj => by obtain ⟨w, q1, q2⟩ := H j hj; exact ⟨w, q1, Int.le_trans q2 e5⟩⟩
theorem own_Ck {Z : State} {h h' : Heap} {la cb sa rn : Addr} {z : Int32} {rs ss : List Value} (S : own_C Z h la cb sa rn z rs ss) (K : Keep h h' []) : own_C Z h' la cb sa rn z rs ss := by
  obtain ⟨a1, a2, a3, a4, a5, a6, ⟨k1, v1⟩, ⟨k2, v2⟩⟩ := S
  exact ⟨a1.keep K, a2.keep K, a3.keep K nin0, a4.keep K nin0, a5.keep K nin0, a6.keep K nin0, ⟨k1, v1.keep K nin0⟩, ⟨k2, v2.keep K nin0⟩⟩
theorem own_put0 (r0 r1 r2 r3 r4 r5 : Value) (c p : Int32) : own_put [r0, r1, r2, r3, r4, r5] 0 c p = [.int c, .int (c + (1 : Int32)), .int p, r3, r4, r5] := by
  unfold own_put
  rw [show ((3 : Int32) * 0).toNatClampNeg = 0 from by decide, show ((3 : Int32) * 0 + (1 : Int32)).toNatClampNeg = 1 from by decide, show ((3 : Int32) * 0 + (2 : Int32)).toNatClampNeg = 2 from by decide]; rfl
theorem own_put1 (r0 r1 r2 r3 r4 r5 : Value) (c p : Int32) : own_put [r0, r1, r2, r3, r4, r5] 1 c p = [r0, r1, r2, .int c, .int (c + (1 : Int32)), .int p] := by
  unfold own_put
  rw [show ((3 : Int32) * 1).toNatClampNeg = 3 from by decide, show ((3 : Int32) * 1 + (1 : Int32)).toNatClampNeg = 4 from by decide, show ((3 : Int32) * 1 + (2 : Int32)).toNatClampNeg = 5 from by decide]; rfl
theorem own_pp {p : Int32} (h : p = 0 ∨ p = 1) : ¬ p < 0 ∧ p < (2 : Int32) := by rcases h with rfl | rfl <;> decide
def own_R1 (f0 p c0 rc1 : Int32) (rs : List Value) : Prop := (f0 = 0 ∧ rc1 = 0 ∧ rs = [.int 0, .int 0, .int 0, .int 0, .int 0, .int 0]) ∨ (¬ f0 = 0 ∧ rc1 = 1 ∧ rs = [.int c0, .int (c0 + (1 : Int32)), .int p, .int 0, .int 0, .int 0])
theorem pd_13 : parseMethodDescriptor "(II)V" = some ⟨[.int, .int], none⟩ := by decide +kernel
theorem pn_0 : plainName "com/example/tilecairn/tilecairn/zonal/BuilderEndRowPinLaw" = true := by first | (simp [plainName, overriddenIn]; done) | decide +kernel
theorem pd_8 : parseMethodDescriptor "(ZIIII)V" = some ⟨[.boolean, .int, .int, .int, .int], none⟩ := by decide +kernel
theorem pd_9 : parseMethodDescriptor "(Lcom/example/tilecairn/tilecairn/tiff/Layout;I)V" = some ⟨[(.object "com/example/tilecairn/tilecairn/tiff/Layout"), .int], none⟩ := by decide +kernel
theorem pd_10 : parseMethodDescriptor "()Lcom/example/tilecairn/tilecairn/zonal/CoveredBlocks;" = some ⟨[], some (.object "com/example/tilecairn/tilecairn/zonal/CoveredBlocks")⟩ := by decide +kernel
theorem pd_11 : parseMethodDescriptor "(I)[I" = some ⟨[.int], some (.array .int)⟩ := by decide +kernel
theorem pd_12 : parseMethodDescriptor "([IIZIIZII)Z" = some ⟨[(.array .int), .int, .boolean, .int, .int, .boolean, .int, .int], some .boolean⟩ := by decide +kernel
theorem ef_0 (m : MethodId) (x0 : Int32) (x1 : Int32) (x2 : Int32) (x3 : Int32) (x4 : Int32) : entryFrame m #[(.int x0), (.int x1), (.int x2), (.int x3), (.int x4)] maxLocals = mkF m 0 #[.val (.int x0), .val (.int x1), .val (.int x2), .val (.int x3), .val (.int x4), .unset, .unset, .unset, .unset, .unset, .unset, .unset, .unset, .unset, .unset, .unset, .unset, .unset] [] := by first | (simp [entryFrame, mkF, argsToLocals, Value.category, maxLocals]; done) | rfl
def Q0 (Z : State) (p1 : Int32) (p2 : Int32) (p3 : Int32) (p4 : Int32) (p5 : Int32) (h0 : Heap) (n0 : Nat) (v : Option Value) (h : Heap) (L : List Loc) : Prop := v = some (.int (1 : Int32)) ∧ Fr n0 L
set_option maxRecDepth 65536 in
set_option maxHeartbeats 40000000 in
theorem rm0 (l : Launch) (Z : State) (a0 : Array Value) (hw : ∀ d ∈ tables_1, d.before a0 Z = true) (ws : List Jvm.Cond) (p1 : Int32) (p2 : Int32) (p3 : Int32) (p4 : Int32) (p5 : Int32) (h0 : Heap) (n0 : Nat) (Z0 : n0 ≤ h0.size) :
    MetFree l x (head1 (Jvm.Cond.code x code maxLocals ret :: ws) room_1) (fun a U => a = #[(.int p1), (.int p2), (.int p3), (.int p4), (.int p5)] ∧ Z.Warmed39 U.vm ∧ U.heap = h0) (fun _ _ _ _ _ => True) (fun _ U o U' => ∃ v L, o = .returned v ∧ Q0 Z p1 p2 p3 p4 p5 h0 n0 v U'.heap L ∧ FrameEnd U o U' L room_1.cells room_1.slots) := by
  refine MetFree.of_bodySF (plainFor_of_name pn_0) hisR ?_
  intro p e s m args below meth c s₁ Bd hml0 hP hK
  obtain ⟨rfl, hZ, hh⟩ := hP
  have hx := Bd.exec
  have hby := Bd.bytes
  have hml : c.maxLocals = 18 := hml0
  have hown : s.vm.findClass "com/example/tilecairn/tilecairn/zonal/BuilderEndRowPinLaw" = some m.cls := findClass_of_methodNamed Bd.named
  have hnm := (name_of_methodNamed Bd.named Bd.method).1
  have X0 : Stand p l e room_1 s m #[(.int p1), (.int p2), (.int p3), (.int p4), (.int p5)] below meth c s₁ [] 0 0 := Stand.of_body Bd
  have e0 : s₁.heap = h0 := by rw [← hh, Bd.state]; rfl
  have N0 := Fr.nil n0
  have pre0 : ∀ t, Steps p.tables e below (s₁.setTop (mkF m 0 #[.val (.int p1), .val (.int p2), .val (.int p3), .val (.int p4), .val (.int p5), .unset, .unset, .unset, .unset, .unset, .unset, .unset, .unset, .unset, .unset, .unset, .unset, .unset] [])) t → Steps p.tables e below (s₁.setTop (entryFrame m #[(.int p1), (.int p2), (.int p3), (.int p4), (.int p5)] maxLocals)) t := fun t k => castTop (ef_0 m p1 p2 p3 p4 p5) k
  obtain ⟨f0, st_3p⟩ : ∃ (f0 : Int32), ∀ target, Steps p.tables e below (s₁.setTop (mkF m 13 #[.val (.int p1), .val (.int p2), .val (.int p3), .val (.int p4), .val (.int p5), .val (.int f0), .unset, .unset, .unset, .unset, .unset, .unset, .unset, .unset, .unset, .unset, .unset, .unset] [])) target → Steps p.tables e below (s₁.setTop (mkF m 0 #[.val (.int p1), .val (.int p2), .val (.int p3), .val (.int p4), .val (.int p5), .unset, .unset, .unset, .unset, .unset, .unset, .unset, .unset, .unset, .unset, .unset, .unset, .unset] [])) target := by
    by_cases hc3 : (p1 &&& (1 : Int32)) = (0 : Int32)
    · refine ⟨(0 : Int32), fun target kt => ?_⟩
      show Steps p.tables e below (s₁.setTop (mkF m 0 #[.val (.int p1), .val (.int p2), .val (.int p3), .val (.int p4), .val (.int p5), .unset, .unset, .unset, .unset, .unset, .unset, .unset, .unset, .unset, .unset, .unset, .unset, .unset] [])) _
      refine XS.iloadN X0.here hx rfl (hb hby at_0) rfl ?_
      show Steps p.tables e below (s₁.setTop (mkF m 1 #[.val (.int p1), .val (.int p2), .val (.int p3), .val (.int p4), .val (.int p5), .unset, .unset, .unset, .unset, .unset, .unset, .unset, .unset, .unset, .unset, .unset, .unset, .unset] [(.int p1)])) _
      refine XS.iconst X0.here hx rfl (hb hby at_1) ?_
      show Steps p.tables e below (s₁.setTop (mkF m 2 #[.val (.int p1), .val (.int p2), .val (.int p3), .val (.int p4), .val (.int p5), .unset, .unset, .unset, .unset, .unset, .unset, .unset, .unset, .unset, .unset, .unset, .unset, .unset] [(.int (1 : Int32)), (.int p1)])) _
      refine XS.iand X0.here hx rfl (hb hby at_2) rfl ?_
      show Steps p.tables e below (s₁.setTop (mkF m 3 #[.val (.int p1), .val (.int p2), .val (.int p3), .val (.int p4), .val (.int p5), .unset, .unset, .unset, .unset, .unset, .unset, .unset, .unset, .unset, .unset, .unset, .unset, .unset] [(.int (p1 &&& (1 : Int32)))])) _
      refine XS.ifYes X0.here hx rfl (pc0 := 3) (pc' := 10) rfl (hb hby at_3) rfl ((if0 _ _).trans (teq hc3).1) (by decide) (by decide) ?_
      show Steps p.tables e below (s₁.setTop (mkF m 10 #[.val (.int p1), .val (.int p2), .val (.int p3), .val (.int p4), .val (.int p5), .unset, .unset, .unset, .unset, .unset, .unset, .unset, .unset, .unset, .unset, .unset, .unset, .unset] [])) _
      refine XS.iconst X0.here hx rfl (hb hby at_10) ?_
      show Steps p.tables e below (s₁.setTop (mkF m 11 #[.val (.int p1), .val (.int p2), .val (.int p3), .val (.int p4), .val (.int p5), .unset, .unset, .unset, .unset, .unset, .unset, .unset, .unset, .unset, .unset, .unset, .unset, .unset] [(.int (0 : Int32))])) _
      refine XS.istore X0.here hx rfl (hb hby at_11) rfl (l' := #[.val (.int p1), .val (.int p2), .val (.int p3), .val (.int p4), .val (.int p5), .val (.int (0 : Int32)), .unset, .unset, .unset, .unset, .unset, .unset, .unset, .unset, .unset, .unset, .unset, .unset]) rfl ?_
      exact kt
    · refine ⟨(1 : Int32), fun target kt => ?_⟩
      show Steps p.tables e below (s₁.setTop (mkF m 0 #[.val (.int p1), .val (.int p2), .val (.int p3), .val (.int p4), .val (.int p5), .unset, .unset, .unset, .unset, .unset, .unset, .unset, .unset, .unset, .unset, .unset, .unset, .unset] [])) _
      refine XS.iloadN X0.here hx rfl (hb hby at_0) rfl ?_
      show Steps p.tables e below (s₁.setTop (mkF m 1 #[.val (.int p1), .val (.int p2), .val (.int p3), .val (.int p4), .val (.int p5), .unset, .unset, .unset, .unset, .unset, .unset, .unset, .unset, .unset, .unset, .unset, .unset, .unset] [(.int p1)])) _
      refine XS.iconst X0.here hx rfl (hb hby at_1) ?_
      show Steps p.tables e below (s₁.setTop (mkF m 2 #[.val (.int p1), .val (.int p2), .val (.int p3), .val (.int p4), .val (.int p5), .unset, .unset, .unset, .unset, .unset, .unset, .unset, .unset, .unset, .unset, .unset, .unset, .unset] [(.int (1 : Int32)), (.int p1)])) _
      refine XS.iand X0.here hx rfl (hb hby at_2) rfl ?_
      show Steps p.tables e below (s₁.setTop (mkF m 3 #[.val (.int p1), .val (.int p2), .val (.int p3), .val (.int p4), .val (.int p5), .unset, .unset, .unset, .unset, .unset, .unset, .unset, .unset, .unset, .unset, .unset, .unset, .unset] [(.int (p1 &&& (1 : Int32)))])) _
      refine XS.ifNo X0.here hx rfl (hb hby at_3) rfl ((if0 _ _).trans (feq hc3).1) ?_
      show Steps p.tables e below (s₁.setTop (mkF m 6 #[.val (.int p1), .val (.int p2), .val (.int p3), .val (.int p4), .val (.int p5), .unset, .unset, .unset, .unset, .unset, .unset, .unset, .unset, .unset, .unset, .unset, .unset, .unset] [])) _
      refine XS.iconst X0.here hx rfl (hb hby at_6) ?_
      show Steps p.tables e below (s₁.setTop (mkF m 7 #[.val (.int p1), .val (.int p2), .val (.int p3), .val (.int p4), .val (.int p5), .unset, .unset, .unset, .unset, .unset, .unset, .unset, .unset, .unset, .unset, .unset, .unset, .unset] [(.int (1 : Int32))])) _
      refine XS.goto X0.here hx rfl (pc0 := 7) (pc' := 11) rfl (hb hby at_7) (by decide) (by decide) ?_
      show Steps p.tables e below (s₁.setTop (mkF m 11 #[.val (.int p1), .val (.int p2), .val (.int p3), .val (.int p4), .val (.int p5), .unset, .unset, .unset, .unset, .unset, .unset, .unset, .unset, .unset, .unset, .unset, .unset, .unset] [(.int (1 : Int32))])) _
      refine XS.istore X0.here hx rfl (hb hby at_11) rfl (l' := #[.val (.int p1), .val (.int p2), .val (.int p3), .val (.int p4), .val (.int p5), .val (.int (1 : Int32)), .unset, .unset, .unset, .unset, .unset, .unset, .unset, .unset, .unset, .unset, .unset, .unset]) rfl ?_
      exact kt
  obtain ⟨f1, st_6p⟩ : ∃ (f1 : Int32), ∀ target, Steps p.tables e below (s₁.setTop (mkF m 26 #[.val (.int p1), .val (.int p2), .val (.int p3), .val (.int p4), .val (.int p5), .val (.int f0), .val (.int f1), .unset, .unset, .unset, .unset, .unset, .unset, .unset, .unset, .unset, .unset, .unset] [])) target → Steps p.tables e below (s₁.setTop (mkF m 13 #[.val (.int p1), .val (.int p2), .val (.int p3), .val (.int p4), .val (.int p5), .val (.int f0), .unset, .unset, .unset, .unset, .unset, .unset, .unset, .unset, .unset, .unset, .unset, .unset] [])) target := by
    by_cases hc16 : (p1 &&& (2 : Int32)) = (0 : Int32)
    · refine ⟨(0 : Int32), fun target kt => ?_⟩
      show Steps p.tables e below (s₁.setTop (mkF m 13 #[.val (.int p1), .val (.int p2), .val (.int p3), .val (.int p4), .val (.int p5), .val (.int f0), .unset, .unset, .unset, .unset, .unset, .unset, .unset, .unset, .unset, .unset, .unset, .unset] [])) _
      refine XS.iloadN X0.here hx rfl (hb hby at_13) rfl ?_
      show Steps p.tables e below (s₁.setTop (mkF m 14 #[.val (.int p1), .val (.int p2), .val (.int p3), .val (.int p4), .val (.int p5), .val (.int f0), .unset, .unset, .unset, .unset, .unset, .unset, .unset, .unset, .unset, .unset, .unset, .unset] [(.int p1)])) _
      refine XS.iconst X0.here hx rfl (hb hby at_14) ?_
      show Steps p.tables e below (s₁.setTop (mkF m 15 #[.val (.int p1), .val (.int p2), .val (.int p3), .val (.int p4), .val (.int p5), .val (.int f0), .unset, .unset, .unset, .unset, .unset, .unset, .unset, .unset, .unset, .unset, .unset, .unset] [(.int (2 : Int32)), (.int p1)])) _
      refine XS.iand X0.here hx rfl (hb hby at_15) rfl ?_
      show Steps p.tables e below (s₁.setTop (mkF m 16 #[.val (.int p1), .val (.int p2), .val (.int p3), .val (.int p4), .val (.int p5), .val (.int f0), .unset, .unset, .unset, .unset, .unset, .unset, .unset, .unset, .unset, .unset, .unset, .unset] [(.int (p1 &&& (2 : Int32)))])) _
      refine XS.ifYes X0.here hx rfl (pc0 := 16) (pc' := 23) rfl (hb hby at_16) rfl ((if0 _ _).trans (teq hc16).1) (by decide) (by decide) ?_
      show Steps p.tables e below (s₁.setTop (mkF m 23 #[.val (.int p1), .val (.int p2), .val (.int p3), .val (.int p4), .val (.int p5), .val (.int f0), .unset, .unset, .unset, .unset, .unset, .unset, .unset, .unset, .unset, .unset, .unset, .unset] [])) _
      refine XS.iconst X0.here hx rfl (hb hby at_23) ?_
      show Steps p.tables e below (s₁.setTop (mkF m 24 #[.val (.int p1), .val (.int p2), .val (.int p3), .val (.int p4), .val (.int p5), .val (.int f0), .unset, .unset, .unset, .unset, .unset, .unset, .unset, .unset, .unset, .unset, .unset, .unset] [(.int (0 : Int32))])) _
      refine XS.istore X0.here hx rfl (hb hby at_24) rfl (l' := #[.val (.int p1), .val (.int p2), .val (.int p3), .val (.int p4), .val (.int p5), .val (.int f0), .val (.int (0 : Int32)), .unset, .unset, .unset, .unset, .unset, .unset, .unset, .unset, .unset, .unset, .unset]) rfl ?_
      exact kt
    · refine ⟨(1 : Int32), fun target kt => ?_⟩
      show Steps p.tables e below (s₁.setTop (mkF m 13 #[.val (.int p1), .val (.int p2), .val (.int p3), .val (.int p4), .val (.int p5), .val (.int f0), .unset, .unset, .unset, .unset, .unset, .unset, .unset, .unset, .unset, .unset, .unset, .unset] [])) _
      refine XS.iloadN X0.here hx rfl (hb hby at_13) rfl ?_
      show Steps p.tables e below (s₁.setTop (mkF m 14 #[.val (.int p1), .val (.int p2), .val (.int p3), .val (.int p4), .val (.int p5), .val (.int f0), .unset, .unset, .unset, .unset, .unset, .unset, .unset, .unset, .unset, .unset, .unset, .unset] [(.int p1)])) _
      refine XS.iconst X0.here hx rfl (hb hby at_14) ?_
      show Steps p.tables e below (s₁.setTop (mkF m 15 #[.val (.int p1), .val (.int p2), .val (.int p3), .val (.int p4), .val (.int p5), .val (.int f0), .unset, .unset, .unset, .unset, .unset, .unset, .unset, .unset, .unset, .unset, .unset, .unset] [(.int (2 : Int32)), (.int p1)])) _
      refine XS.iand X0.here hx rfl (hb hby at_15) rfl ?_
      show Steps p.tables e below (s₁.setTop (mkF m 16 #[.val (.int p1), .val (.int p2), .val (.int p3), .val (.int p4), .val (.int p5), .val (.int f0), .unset, .unset, .unset, .unset, .unset, .unset, .unset, .unset, .unset, .unset, .unset, .unset] [(.int (p1 &&& (2 : Int32)))])) _
      refine XS.ifNo X0.here hx rfl (hb hby at_16) rfl ((if0 _ _).trans (feq hc16).1) ?_
      show Steps p.tables e below (s₁.setTop (mkF m 19 #[.val (.int p1), .val (.int p2), .val (.int p3), .val (.int p4), .val (.int p5), .val (.int f0), .unset, .unset, .unset, .unset, .unset, .unset, .unset, .unset, .unset, .unset, .unset, .unset] [])) _
      refine XS.iconst X0.here hx rfl (hb hby at_19) ?_
      show Steps p.tables e below (s₁.setTop (mkF m 20 #[.val (.int p1), .val (.int p2), .val (.int p3), .val (.int p4), .val (.int p5), .val (.int f0), .unset, .unset, .unset, .unset, .unset, .unset, .unset, .unset, .unset, .unset, .unset, .unset] [(.int (1 : Int32))])) _
      refine XS.goto X0.here hx rfl (pc0 := 20) (pc' := 24) rfl (hb hby at_20) (by decide) (by decide) ?_
      show Steps p.tables e below (s₁.setTop (mkF m 24 #[.val (.int p1), .val (.int p2), .val (.int p3), .val (.int p4), .val (.int p5), .val (.int f0), .unset, .unset, .unset, .unset, .unset, .unset, .unset, .unset, .unset, .unset, .unset, .unset] [(.int (1 : Int32))])) _
      refine XS.istore X0.here hx rfl (hb hby at_24) rfl (l' := #[.val (.int p1), .val (.int p2), .val (.int p3), .val (.int p4), .val (.int p5), .val (.int f0), .val (.int (1 : Int32)), .unset, .unset, .unset, .unset, .unset, .unset, .unset, .unset, .unset, .unset, .unset]) rfl ?_
      exact kt
  have hy56_7 : (12 : Int32) ≠ 0 := (by decide)
  have hy66_7 : (12 : Int32) ≠ 0 := (by decide)
  have st_7p : ∀ target, Steps p.tables e below (s₁.setTop (mkF m 69 #[.val (.int p1), .val (.int p2), .val (.int p3), .val (.int p4), .val (.int p5), .val (.int f0), .val (.int f1), .val (.int (((p1.toUInt32 >>> ((2 : Int32) &&& 31).toUInt32).toInt32) &&& (1 : Int32))), .val (.int (((p1.toUInt32 >>> ((3 : Int32) &&& 31).toUInt32).toInt32) &&& (1 : Int32))), .val (.int (p2 &&& (3 : Int32))), .val (.int (p3 &&& (3 : Int32))), .val (.int (own_rem (p4 &&& (2147483647 : Int32)) (12 : Int32))), .val (.int (own_rem (p5 &&& (2147483647 : Int32)) (12 : Int32))), .unset, .unset, .unset, .unset, .unset] [])) target → Steps p.tables e below (s₁.setTop (mkF m 26 #[.val (.int p1), .val (.int p2), .val (.int p3), .val (.int p4), .val (.int p5), .val (.int f0), .val (.int f1), .unset, .unset, .unset, .unset, .unset, .unset, .unset, .unset, .unset, .unset, .unset] [])) target := by
    intro target kt
    show Steps p.tables e below (s₁.setTop (mkF m 26 #[.val (.int p1), .val (.int p2), .val (.int p3), .val (.int p4), .val (.int p5), .val (.int f0), .val (.int f1), .unset, .unset, .unset, .unset, .unset, .unset, .unset, .unset, .unset, .unset, .unset] [])) _
    refine XS.iloadN X0.here hx rfl (hb hby at_26) rfl ?_
    show Steps p.tables e below (s₁.setTop (mkF m 27 #[.val (.int p1), .val (.int p2), .val (.int p3), .val (.int p4), .val (.int p5), .val (.int f0), .val (.int f1), .unset, .unset, .unset, .unset, .unset, .unset, .unset, .unset, .unset, .unset, .unset] [(.int p1)])) _
    refine XS.iconst X0.here hx rfl (hb hby at_27) ?_
    show Steps p.tables e below (s₁.setTop (mkF m 28 #[.val (.int p1), .val (.int p2), .val (.int p3), .val (.int p4), .val (.int p5), .val (.int f0), .val (.int f1), .unset, .unset, .unset, .unset, .unset, .unset, .unset, .unset, .unset, .unset, .unset] [(.int (2 : Int32)), (.int p1)])) _
    refine XS.iushr X0.here hx rfl (hb hby at_28) rfl ?_
    show Steps p.tables e below (s₁.setTop (mkF m 29 #[.val (.int p1), .val (.int p2), .val (.int p3), .val (.int p4), .val (.int p5), .val (.int f0), .val (.int f1), .unset, .unset, .unset, .unset, .unset, .unset, .unset, .unset, .unset, .unset, .unset] [(.int ((p1.toUInt32 >>> ((2 : Int32) &&& 31).toUInt32).toInt32))])) _
    refine XS.iconst X0.here hx rfl (hb hby at_29) ?_
    show Steps p.tables e below (s₁.setTop (mkF m 30 #[.val (.int p1), .val (.int p2), .val (.int p3), .val (.int p4), .val (.int p5), .val (.int f0), .val (.int f1), .unset, .unset, .unset, .unset, .unset, .unset, .unset, .unset, .unset, .unset, .unset] [(.int (1 : Int32)), (.int ((p1.toUInt32 >>> ((2 : Int32) &&& 31).toUInt32).toInt32))])) _
    refine XS.iand X0.here hx rfl (hb hby at_30) rfl ?_
    show Steps p.tables e below (s₁.setTop (mkF m 31 #[.val (.int p1), .val (.int p2), .val (.int p3), .val (.int p4), .val (.int p5), .val (.int f0), .val (.int f1), .unset, .unset, .unset, .unset, .unset, .unset, .unset, .unset, .unset, .unset, .unset] [(.int (((p1.toUInt32 >>> ((2 : Int32) &&& 31).toUInt32).toInt32) &&& (1 : Int32)))])) _
    refine XS.istore X0.here hx rfl (hb hby at_31) rfl (l' := #[.val (.int p1), .val (.int p2), .val (.int p3), .val (.int p4), .val (.int p5), .val (.int f0), .val (.int f1), .val (.int (((p1.toUInt32 >>> ((2 : Int32) &&& 31).toUInt32).toInt32) &&& (1 : Int32))), .unset, .unset, .unset, .unset, .unset, .unset, .unset, .unset, .unset, .unset]) rfl ?_
    show Steps p.tables e below (s₁.setTop (mkF m 33 #[.val (.int p1), .val (.int p2), .val (.int p3), .val (.int p4), .val (.int p5), .val (.int f0), .val (.int f1), .val (.int (((p1.toUInt32 >>> ((2 : Int32) &&& 31).toUInt32).toInt32) &&& (1 : Int32))), .unset, .unset, .unset, .unset, .unset, .unset, .unset, .unset, .unset, .unset] [])) _
    refine XS.iloadN X0.here hx rfl (hb hby at_33) rfl ?_
    show Steps p.tables e below (s₁.setTop (mkF m 34 #[.val (.int p1), .val (.int p2), .val (.int p3), .val (.int p4), .val (.int p5), .val (.int f0), .val (.int f1), .val (.int (((p1.toUInt32 >>> ((2 : Int32) &&& 31).toUInt32).toInt32) &&& (1 : Int32))), .unset, .unset, .unset, .unset, .unset, .unset, .unset, .unset, .unset, .unset] [(.int p1)])) _
    refine XS.iconst X0.here hx rfl (hb hby at_34) ?_
    show Steps p.tables e below (s₁.setTop (mkF m 35 #[.val (.int p1), .val (.int p2), .val (.int p3), .val (.int p4), .val (.int p5), .val (.int f0), .val (.int f1), .val (.int (((p1.toUInt32 >>> ((2 : Int32) &&& 31).toUInt32).toInt32) &&& (1 : Int32))), .unset, .unset, .unset, .unset, .unset, .unset, .unset, .unset, .unset, .unset] [(.int (3 : Int32)), (.int p1)])) _
    refine XS.iushr X0.here hx rfl (hb hby at_35) rfl ?_
    show Steps p.tables e below (s₁.setTop (mkF m 36 #[.val (.int p1), .val (.int p2), .val (.int p3), .val (.int p4), .val (.int p5), .val (.int f0), .val (.int f1), .val (.int (((p1.toUInt32 >>> ((2 : Int32) &&& 31).toUInt32).toInt32) &&& (1 : Int32))), .unset, .unset, .unset, .unset, .unset, .unset, .unset, .unset, .unset, .unset] [(.int ((p1.toUInt32 >>> ((3 : Int32) &&& 31).toUInt32).toInt32))])) _
    refine XS.iconst X0.here hx rfl (hb hby at_36) ?_
    show Steps p.tables e below (s₁.setTop (mkF m 37 #[.val (.int p1), .val (.int p2), .val (.int p3), .val (.int p4), .val (.int p5), .val (.int f0), .val (.int f1), .val (.int (((p1.toUInt32 >>> ((2 : Int32) &&& 31).toUInt32).toInt32) &&& (1 : Int32))), .unset, .unset, .unset, .unset, .unset, .unset, .unset, .unset, .unset, .unset] [(.int (1 : Int32)), (.int ((p1.toUInt32 >>> ((3 : Int32) &&& 31).toUInt32).toInt32))])) _
    refine XS.iand X0.here hx rfl (hb hby at_37) rfl ?_
    show Steps p.tables e below (s₁.setTop (mkF m 38 #[.val (.int p1), .val (.int p2), .val (.int p3), .val (.int p4), .val (.int p5), .val (.int f0), .val (.int f1), .val (.int (((p1.toUInt32 >>> ((2 : Int32) &&& 31).toUInt32).toInt32) &&& (1 : Int32))), .unset, .unset, .unset, .unset, .unset, .unset, .unset, .unset, .unset, .unset] [(.int (((p1.toUInt32 >>> ((3 : Int32) &&& 31).toUInt32).toInt32) &&& (1 : Int32)))])) _
    refine XS.istore X0.here hx rfl (hb hby at_38) rfl (l' := #[.val (.int p1), .val (.int p2), .val (.int p3), .val (.int p4), .val (.int p5), .val (.int f0), .val (.int f1), .val (.int (((p1.toUInt32 >>> ((2 : Int32) &&& 31).toUInt32).toInt32) &&& (1 : Int32))), .val (.int (((p1.toUInt32 >>> ((3 : Int32) &&& 31).toUInt32).toInt32) &&& (1 : Int32))), .unset, .unset, .unset, .unset, .unset, .unset, .unset, .unset, .unset]) rfl ?_
    show Steps p.tables e below (s₁.setTop (mkF m 40 #[.val (.int p1), .val (.int p2), .val (.int p3), .val (.int p4), .val (.int p5), .val (.int f0), .val (.int f1), .val (.int (((p1.toUInt32 >>> ((2 : Int32) &&& 31).toUInt32).toInt32) &&& (1 : Int32))), .val (.int (((p1.toUInt32 >>> ((3 : Int32) &&& 31).toUInt32).toInt32) &&& (1 : Int32))), .unset, .unset, .unset, .unset, .unset, .unset, .unset, .unset, .unset] [])) _
    refine XS.iloadN X0.here hx rfl (hb hby at_40) rfl ?_
    show Steps p.tables e below (s₁.setTop (mkF m 41 #[.val (.int p1), .val (.int p2), .val (.int p3), .val (.int p4), .val (.int p5), .val (.int f0), .val (.int f1), .val (.int (((p1.toUInt32 >>> ((2 : Int32) &&& 31).toUInt32).toInt32) &&& (1 : Int32))), .val (.int (((p1.toUInt32 >>> ((3 : Int32) &&& 31).toUInt32).toInt32) &&& (1 : Int32))), .unset, .unset, .unset, .unset, .unset, .unset, .unset, .unset, .unset] [(.int p2)])) _
    refine XS.iconst X0.here hx rfl (hb hby at_41) ?_
    show Steps p.tables e below (s₁.setTop (mkF m 42 #[.val (.int p1), .val (.int p2), .val (.int p3), .val (.int p4), .val (.int p5), .val (.int f0), .val (.int f1), .val (.int (((p1.toUInt32 >>> ((2 : Int32) &&& 31).toUInt32).toInt32) &&& (1 : Int32))), .val (.int (((p1.toUInt32 >>> ((3 : Int32) &&& 31).toUInt32).toInt32) &&& (1 : Int32))), .unset, .unset, .unset, .unset, .unset, .unset, .unset, .unset, .unset] [(.int (3 : Int32)), (.int p2)])) _
    refine XS.iand X0.here hx rfl (hb hby at_42) rfl ?_
    show Steps p.tables e below (s₁.setTop (mkF m 43 #[.val (.int p1), .val (.int p2), .val (.int p3), .val (.int p4), .val (.int p5), .val (.int f0), .val (.int f1), .val (.int (((p1.toUInt32 >>> ((2 : Int32) &&& 31).toUInt32).toInt32) &&& (1 : Int32))), .val (.int (((p1.toUInt32 >>> ((3 : Int32) &&& 31).toUInt32).toInt32) &&& (1 : Int32))), .unset, .unset, .unset, .unset, .unset, .unset, .unset, .unset, .unset] [(.int (p2 &&& (3 : Int32)))])) _
    refine XS.istore X0.here hx rfl (hb hby at_43) rfl (l' := #[.val (.int p1), .val (.int p2), .val (.int p3), .val (.int p4), .val (.int p5), .val (.int f0), .val (.int f1), .val (.int (((p1.toUInt32 >>> ((2 : Int32) &&& 31).toUInt32).toInt32) &&& (1 : Int32))), .val (.int (((p1.toUInt32 >>> ((3 : Int32) &&& 31).toUInt32).toInt32) &&& (1 : Int32))), .val (.int (p2 &&& (3 : Int32))), .unset, .unset, .unset, .unset, .unset, .unset, .unset, .unset]) rfl ?_
    show Steps p.tables e below (s₁.setTop (mkF m 45 #[.val (.int p1), .val (.int p2), .val (.int p3), .val (.int p4), .val (.int p5), .val (.int f0), .val (.int f1), .val (.int (((p1.toUInt32 >>> ((2 : Int32) &&& 31).toUInt32).toInt32) &&& (1 : Int32))), .val (.int (((p1.toUInt32 >>> ((3 : Int32) &&& 31).toUInt32).toInt32) &&& (1 : Int32))), .val (.int (p2 &&& (3 : Int32))), .unset, .unset, .unset, .unset, .unset, .unset, .unset, .unset] [])) _
    refine XS.iloadN X0.here hx rfl (hb hby at_45) rfl ?_
    show Steps p.tables e below (s₁.setTop (mkF m 46 #[.val (.int p1), .val (.int p2), .val (.int p3), .val (.int p4), .val (.int p5), .val (.int f0), .val (.int f1), .val (.int (((p1.toUInt32 >>> ((2 : Int32) &&& 31).toUInt32).toInt32) &&& (1 : Int32))), .val (.int (((p1.toUInt32 >>> ((3 : Int32) &&& 31).toUInt32).toInt32) &&& (1 : Int32))), .val (.int (p2 &&& (3 : Int32))), .unset, .unset, .unset, .unset, .unset, .unset, .unset, .unset] [(.int p3)])) _
    refine XS.iconst X0.here hx rfl (hb hby at_46) ?_
    show Steps p.tables e below (s₁.setTop (mkF m 47 #[.val (.int p1), .val (.int p2), .val (.int p3), .val (.int p4), .val (.int p5), .val (.int f0), .val (.int f1), .val (.int (((p1.toUInt32 >>> ((2 : Int32) &&& 31).toUInt32).toInt32) &&& (1 : Int32))), .val (.int (((p1.toUInt32 >>> ((3 : Int32) &&& 31).toUInt32).toInt32) &&& (1 : Int32))), .val (.int (p2 &&& (3 : Int32))), .unset, .unset, .unset, .unset, .unset, .unset, .unset, .unset] [(.int (3 : Int32)), (.int p3)])) _
    refine XS.iand X0.here hx rfl (hb hby at_47) rfl ?_
    show Steps p.tables e below (s₁.setTop (mkF m 48 #[.val (.int p1), .val (.int p2), .val (.int p3), .val (.int p4), .val (.int p5), .val (.int f0), .val (.int f1), .val (.int (((p1.toUInt32 >>> ((2 : Int32) &&& 31).toUInt32).toInt32) &&& (1 : Int32))), .val (.int (((p1.toUInt32 >>> ((3 : Int32) &&& 31).toUInt32).toInt32) &&& (1 : Int32))), .val (.int (p2 &&& (3 : Int32))), .unset, .unset, .unset, .unset, .unset, .unset, .unset, .unset] [(.int (p3 &&& (3 : Int32)))])) _
    refine XS.istore X0.here hx rfl (hb hby at_48) rfl (l' := #[.val (.int p1), .val (.int p2), .val (.int p3), .val (.int p4), .val (.int p5), .val (.int f0), .val (.int f1), .val (.int (((p1.toUInt32 >>> ((2 : Int32) &&& 31).toUInt32).toInt32) &&& (1 : Int32))), .val (.int (((p1.toUInt32 >>> ((3 : Int32) &&& 31).toUInt32).toInt32) &&& (1 : Int32))), .val (.int (p2 &&& (3 : Int32))), .val (.int (p3 &&& (3 : Int32))), .unset, .unset, .unset, .unset, .unset, .unset, .unset]) rfl ?_
    show Steps p.tables e below (s₁.setTop (mkF m 50 #[.val (.int p1), .val (.int p2), .val (.int p3), .val (.int p4), .val (.int p5), .val (.int f0), .val (.int f1), .val (.int (((p1.toUInt32 >>> ((2 : Int32) &&& 31).toUInt32).toInt32) &&& (1 : Int32))), .val (.int (((p1.toUInt32 >>> ((3 : Int32) &&& 31).toUInt32).toInt32) &&& (1 : Int32))), .val (.int (p2 &&& (3 : Int32))), .val (.int (p3 &&& (3 : Int32))), .unset, .unset, .unset, .unset, .unset, .unset, .unset] [])) _
    refine XS.iloadN X0.here hx rfl (hb hby at_50) rfl ?_
    show Steps p.tables e below (s₁.setTop (mkF m 51 #[.val (.int p1), .val (.int p2), .val (.int p3), .val (.int p4), .val (.int p5), .val (.int f0), .val (.int f1), .val (.int (((p1.toUInt32 >>> ((2 : Int32) &&& 31).toUInt32).toInt32) &&& (1 : Int32))), .val (.int (((p1.toUInt32 >>> ((3 : Int32) &&& 31).toUInt32).toInt32) &&& (1 : Int32))), .val (.int (p2 &&& (3 : Int32))), .val (.int (p3 &&& (3 : Int32))), .unset, .unset, .unset, .unset, .unset, .unset, .unset] [(.int p4)])) _
    refine X0.ldcInt hx hown (mvT hZ (hw _ (List.mem_of_getElem? (i := 0) rfl))) (g := (mkF m 51 #[.val (.int p1), .val (.int p2), .val (.int p3), .val (.int p4), .val (.int p5), .val (.int f0), .val (.int f1), .val (.int (((p1.toUInt32 >>> ((2 : Int32) &&& 31).toUInt32).toInt32) &&& (1 : Int32))), .val (.int (((p1.toUInt32 >>> ((3 : Int32) &&& 31).toUInt32).toInt32) &&& (1 : Int32))), .val (.int (p2 &&& (3 : Int32))), .val (.int (p3 &&& (3 : Int32))), .unset, .unset, .unset, .unset, .unset, .unset, .unset] [(.int p4)])) rfl (hb hby at_51) _ ?_
    show Steps p.tables e below (s₁.setTop (mkF m 53 #[.val (.int p1), .val (.int p2), .val (.int p3), .val (.int p4), .val (.int p5), .val (.int f0), .val (.int f1), .val (.int (((p1.toUInt32 >>> ((2 : Int32) &&& 31).toUInt32).toInt32) &&& (1 : Int32))), .val (.int (((p1.toUInt32 >>> ((3 : Int32) &&& 31).toUInt32).toInt32) &&& (1 : Int32))), .val (.int (p2 &&& (3 : Int32))), .val (.int (p3 &&& (3 : Int32))), .unset, .unset, .unset, .unset, .unset, .unset, .unset] [(.int (2147483647 : Int32)), (.int p4)])) _
    refine XS.iand X0.here hx rfl (hb hby at_53) rfl ?_
    show Steps p.tables e below (s₁.setTop (mkF m 54 #[.val (.int p1), .val (.int p2), .val (.int p3), .val (.int p4), .val (.int p5), .val (.int f0), .val (.int f1), .val (.int (((p1.toUInt32 >>> ((2 : Int32) &&& 31).toUInt32).toInt32) &&& (1 : Int32))), .val (.int (((p1.toUInt32 >>> ((3 : Int32) &&& 31).toUInt32).toInt32) &&& (1 : Int32))), .val (.int (p2 &&& (3 : Int32))), .val (.int (p3 &&& (3 : Int32))), .unset, .unset, .unset, .unset, .unset, .unset, .unset] [(.int (p4 &&& (2147483647 : Int32)))])) _
    refine XS.bipush X0.here hx rfl (hb hby at_54) ?_
    show Steps p.tables e below (s₁.setTop (mkF m 56 #[.val (.int p1), .val (.int p2), .val (.int p3), .val (.int p4), .val (.int p5), .val (.int f0), .val (.int f1), .val (.int (((p1.toUInt32 >>> ((2 : Int32) &&& 31).toUInt32).toInt32) &&& (1 : Int32))), .val (.int (((p1.toUInt32 >>> ((3 : Int32) &&& 31).toUInt32).toInt32) &&& (1 : Int32))), .val (.int (p2 &&& (3 : Int32))), .val (.int (p3 &&& (3 : Int32))), .unset, .unset, .unset, .unset, .unset, .unset, .unset] [(.int (12 : Int32)), (.int (p4 &&& (2147483647 : Int32)))])) _
    refine XS.irem X0.here hx rfl (hb hby at_56) rfl hy56_7 ?_
    show Steps p.tables e below (s₁.setTop (mkF m 57 #[.val (.int p1), .val (.int p2), .val (.int p3), .val (.int p4), .val (.int p5), .val (.int f0), .val (.int f1), .val (.int (((p1.toUInt32 >>> ((2 : Int32) &&& 31).toUInt32).toInt32) &&& (1 : Int32))), .val (.int (((p1.toUInt32 >>> ((3 : Int32) &&& 31).toUInt32).toInt32) &&& (1 : Int32))), .val (.int (p2 &&& (3 : Int32))), .val (.int (p3 &&& (3 : Int32))), .unset, .unset, .unset, .unset, .unset, .unset, .unset] [(.int (own_rem (p4 &&& (2147483647 : Int32)) (12 : Int32)))])) _
    refine XS.istore X0.here hx rfl (hb hby at_57) rfl (l' := #[.val (.int p1), .val (.int p2), .val (.int p3), .val (.int p4), .val (.int p5), .val (.int f0), .val (.int f1), .val (.int (((p1.toUInt32 >>> ((2 : Int32) &&& 31).toUInt32).toInt32) &&& (1 : Int32))), .val (.int (((p1.toUInt32 >>> ((3 : Int32) &&& 31).toUInt32).toInt32) &&& (1 : Int32))), .val (.int (p2 &&& (3 : Int32))), .val (.int (p3 &&& (3 : Int32))), .val (.int (own_rem (p4 &&& (2147483647 : Int32)) (12 : Int32))), .unset, .unset, .unset, .unset, .unset, .unset]) rfl ?_
    show Steps p.tables e below (s₁.setTop (mkF m 59 #[.val (.int p1), .val (.int p2), .val (.int p3), .val (.int p4), .val (.int p5), .val (.int f0), .val (.int f1), .val (.int (((p1.toUInt32 >>> ((2 : Int32) &&& 31).toUInt32).toInt32) &&& (1 : Int32))), .val (.int (((p1.toUInt32 >>> ((3 : Int32) &&& 31).toUInt32).toInt32) &&& (1 : Int32))), .val (.int (p2 &&& (3 : Int32))), .val (.int (p3 &&& (3 : Int32))), .val (.int (own_rem (p4 &&& (2147483647 : Int32)) (12 : Int32))), .unset, .unset, .unset, .unset, .unset, .unset] [])) _
    refine XS.iload X0.here hx rfl (hb hby at_59) rfl ?_
    show Steps p.tables e below (s₁.setTop (mkF m 61 #[.val (.int p1), .val (.int p2), .val (.int p3), .val (.int p4), .val (.int p5), .val (.int f0), .val (.int f1), .val (.int (((p1.toUInt32 >>> ((2 : Int32) &&& 31).toUInt32).toInt32) &&& (1 : Int32))), .val (.int (((p1.toUInt32 >>> ((3 : Int32) &&& 31).toUInt32).toInt32) &&& (1 : Int32))), .val (.int (p2 &&& (3 : Int32))), .val (.int (p3 &&& (3 : Int32))), .val (.int (own_rem (p4 &&& (2147483647 : Int32)) (12 : Int32))), .unset, .unset, .unset, .unset, .unset, .unset] [(.int p5)])) _
    refine X0.ldcInt hx hown (mvT hZ (hw _ (List.mem_of_getElem? (i := 0) rfl))) (g := (mkF m 61 #[.val (.int p1), .val (.int p2), .val (.int p3), .val (.int p4), .val (.int p5), .val (.int f0), .val (.int f1), .val (.int (((p1.toUInt32 >>> ((2 : Int32) &&& 31).toUInt32).toInt32) &&& (1 : Int32))), .val (.int (((p1.toUInt32 >>> ((3 : Int32) &&& 31).toUInt32).toInt32) &&& (1 : Int32))), .val (.int (p2 &&& (3 : Int32))), .val (.int (p3 &&& (3 : Int32))), .val (.int (own_rem (p4 &&& (2147483647 : Int32)) (12 : Int32))), .unset, .unset, .unset, .unset, .unset, .unset] [(.int p5)])) rfl (hb hby at_61) _ ?_
    show Steps p.tables e below (s₁.setTop (mkF m 63 #[.val (.int p1), .val (.int p2), .val (.int p3), .val (.int p4), .val (.int p5), .val (.int f0), .val (.int f1), .val (.int (((p1.toUInt32 >>> ((2 : Int32) &&& 31).toUInt32).toInt32) &&& (1 : Int32))), .val (.int (((p1.toUInt32 >>> ((3 : Int32) &&& 31).toUInt32).toInt32) &&& (1 : Int32))), .val (.int (p2 &&& (3 : Int32))), .val (.int (p3 &&& (3 : Int32))), .val (.int (own_rem (p4 &&& (2147483647 : Int32)) (12 : Int32))), .unset, .unset, .unset, .unset, .unset, .unset] [(.int (2147483647 : Int32)), (.int p5)])) _
    refine XS.iand X0.here hx rfl (hb hby at_63) rfl ?_
    show Steps p.tables e below (s₁.setTop (mkF m 64 #[.val (.int p1), .val (.int p2), .val (.int p3), .val (.int p4), .val (.int p5), .val (.int f0), .val (.int f1), .val (.int (((p1.toUInt32 >>> ((2 : Int32) &&& 31).toUInt32).toInt32) &&& (1 : Int32))), .val (.int (((p1.toUInt32 >>> ((3 : Int32) &&& 31).toUInt32).toInt32) &&& (1 : Int32))), .val (.int (p2 &&& (3 : Int32))), .val (.int (p3 &&& (3 : Int32))), .val (.int (own_rem (p4 &&& (2147483647 : Int32)) (12 : Int32))), .unset, .unset, .unset, .unset, .unset, .unset] [(.int (p5 &&& (2147483647 : Int32)))])) _
    refine XS.bipush X0.here hx rfl (hb hby at_64) ?_
    show Steps p.tables e below (s₁.setTop (mkF m 66 #[.val (.int p1), .val (.int p2), .val (.int p3), .val (.int p4), .val (.int p5), .val (.int f0), .val (.int f1), .val (.int (((p1.toUInt32 >>> ((2 : Int32) &&& 31).toUInt32).toInt32) &&& (1 : Int32))), .val (.int (((p1.toUInt32 >>> ((3 : Int32) &&& 31).toUInt32).toInt32) &&& (1 : Int32))), .val (.int (p2 &&& (3 : Int32))), .val (.int (p3 &&& (3 : Int32))), .val (.int (own_rem (p4 &&& (2147483647 : Int32)) (12 : Int32))), .unset, .unset, .unset, .unset, .unset, .unset] [(.int (12 : Int32)), (.int (p5 &&& (2147483647 : Int32)))])) _
    refine XS.irem X0.here hx rfl (hb hby at_66) rfl hy66_7 ?_
    show Steps p.tables e below (s₁.setTop (mkF m 67 #[.val (.int p1), .val (.int p2), .val (.int p3), .val (.int p4), .val (.int p5), .val (.int f0), .val (.int f1), .val (.int (((p1.toUInt32 >>> ((2 : Int32) &&& 31).toUInt32).toInt32) &&& (1 : Int32))), .val (.int (((p1.toUInt32 >>> ((3 : Int32) &&& 31).toUInt32).toInt32) &&& (1 : Int32))), .val (.int (p2 &&& (3 : Int32))), .val (.int (p3 &&& (3 : Int32))), .val (.int (own_rem (p4 &&& (2147483647 : Int32)) (12 : Int32))), .unset, .unset, .unset, .unset, .unset, .unset] [(.int (own_rem (p5 &&& (2147483647 : Int32)) (12 : Int32)))])) _
    refine XS.istore X0.here hx rfl (hb hby at_67) rfl (l' := #[.val (.int p1), .val (.int p2), .val (.int p3), .val (.int p4), .val (.int p5), .val (.int f0), .val (.int f1), .val (.int (((p1.toUInt32 >>> ((2 : Int32) &&& 31).toUInt32).toInt32) &&& (1 : Int32))), .val (.int (((p1.toUInt32 >>> ((3 : Int32) &&& 31).toUInt32).toInt32) &&& (1 : Int32))), .val (.int (p2 &&& (3 : Int32))), .val (.int (p3 &&& (3 : Int32))), .val (.int (own_rem (p4 &&& (2147483647 : Int32)) (12 : Int32))), .val (.int (own_rem (p5 &&& (2147483647 : Int32)) (12 : Int32))), .unset, .unset, .unset, .unset, .unset]) rfl ?_
    exact kt
  obtain ⟨pp, epp⟩ : ∃ z : Int32, z = (((p1.toUInt32 >>> ((2 : Int32) &&& 31).toUInt32).toInt32) &&& (1 : Int32)) := ⟨_, rfl⟩
  rw [← epp] at st_7p
  have hpp : pp = 0 ∨ pp = 1 := by rw [epp]; exact own_and1 _
  clear epp
  obtain ⟨qq, eqq⟩ : ∃ z : Int32, z = (((p1.toUInt32 >>> ((3 : Int32) &&& 31).toUInt32).toInt32) &&& (1 : Int32)) := ⟨_, rfl⟩
  rw [← eqq] at st_7p
  have hqq : qq = 0 ∨ qq = 1 := by rw [eqq]; exact own_and1 _
  clear eqq
  obtain ⟨cc0, ecc0⟩ : ∃ z : Int32, z = (p2 &&& (3 : Int32)) := ⟨_, rfl⟩
  rw [← ecc0] at st_7p
  have hcc0 : 0 ≤ cc0.toInt ∧ cc0.toInt ≤ 3 := by rw [ecc0]; exact own_and3 _
  clear ecc0
  obtain ⟨cc1, ecc1⟩ : ∃ z : Int32, z = (p3 &&& (3 : Int32)) := ⟨_, rfl⟩
  rw [← ecc1] at st_7p
  have hcc1 : 0 ≤ cc1.toInt ∧ cc1.toInt ≤ 3 := by rw [ecc1]; exact own_and3 _
  clear ecc1
  obtain ⟨bx, ebx⟩ : ∃ z : Int32, z = (own_rem (p4 &&& (2147483647 : Int32)) (12 : Int32)) := ⟨_, rfl⟩
  rw [← ebx] at st_7p
  have hbx : 0 ≤ bx.toInt ∧ bx.toInt < (12 : Int32).toInt := by rw [ebx]; exact own_rem_in _ (by decide)
  clear ebx
  obtain ⟨by', eby'⟩ : ∃ z : Int32, z = (own_rem (p5 &&& (2147483647 : Int32)) (12 : Int32)) := ⟨_, rfl⟩
  rw [← eby'] at st_7p
  have hby' : 0 ≤ by'.toInt ∧ by'.toInt < (12 : Int32).toInt := by rw [eby']; exact own_rem_in _ (by decide)
  clear eby'
  obtain ⟨T6_8, h6_8, X6_8, e6_8, E6_8, A6_8, D6_8, -, st6_8⟩ := newO X0 hx hZ hown (hw _ (List.mem_of_getElem? (i := 1) rfl)) (hw _ (List.mem_of_getElem? (i := 2) rfl)) (hw _ (List.mem_of_getElem? (i := 3) rfl)) e0 (g := (mkF m 69 #[.val (.int p1), .val (.int p2), .val (.int p3), .val (.int p4), .val (.int p5), .val (.int f0), .val (.int f1), .val (.int pp), .val (.int qq), .val (.int cc0), .val (.int cc1), .val (.int bx), .val (.int by'), .unset, .unset, .unset, .unset, .unset] [])) rfl (hb hby at_69) (by decide) (by decide)
  obtain ⟨b6_8, g6_8⟩ : ∃ z, z = h0.size := ⟨_, rfl⟩
  rw [← g6_8] at A6_8 D6_8 st6_8
  have F_tiled_b6_8 : Fld Z h6_8 b6_8 "com/example/tilecairn/tilecairn/tiff/Layout" "tiled" "Z" (.int (0 : Int32)) := D6_8 (Or.inr (hw _ (List.mem_of_getElem? (i := 16) rfl))) (ty := .boolean) (by decide)
  have F_blockWidth_b6_8 : Fld Z h6_8 b6_8 "com/example/tilecairn/tilecairn/tiff/Layout" "blockWidth" "I" (.int (0 : Int32)) := D6_8 (Or.inr (hw _ (List.mem_of_getElem? (i := 18) rfl))) (ty := .int) (by decide)
  have F_blockHeight_b6_8 : Fld Z h6_8 b6_8 "com/example/tilecairn/tilecairn/tiff/Layout" "blockHeight" "I" (.int (0 : Int32)) := D6_8 (Or.inr (hw _ (List.mem_of_getElem? (i := 20) rfl))) (ty := .int) (by decide)
  have F_blocksAcross_b6_8 : Fld Z h6_8 b6_8 "com/example/tilecairn/tilecairn/tiff/Layout" "blocksAcross" "I" (.int (0 : Int32)) := D6_8 (Or.inr (hw _ (List.mem_of_getElem? (i := 22) rfl))) (ty := .int) (by decide)
  have F_blocksDown_b6_8 : Fld Z h6_8 b6_8 "com/example/tilecairn/tilecairn/tiff/Layout" "blocksDown" "I" (.int (0 : Int32)) := D6_8 (Or.inr (hw _ (List.mem_of_getElem? (i := 24) rfl))) (ty := .int) (by decide)
  have E_b6_8 := A6_8
  have g_b6_8 : n0 ≤ b6_8 := Nat.le_trans Z0 (Nat.le_of_eq g6_8.symm)
  have sz_b6_8 : h0.size ≤ b6_8 := (Nat.le_trans (Keep.refl h0 []).1 (Nat.le_of_eq g6_8.symm))
  have K6_8 : Keep h0 h6_8 [] := (Keep.refl h0 []).ext E6_8
  obtain ⟨_, _, ⟨T7_8, L7_8, k7_8, n7_8⟩, -, X7_8, ⟨Lc7_8, hQ7_8, l7_8, y7_8, z7_8⟩, st7_8⟩ := X6_8.specialBack hx (y := (⟨"com/example/tilecairn/tilecairn/tiff/Layout", "<init>", "(ZIIII)V"⟩ : MethodName)) rfl hown (mvT hZ (hw _ (List.mem_of_getElem? (i := 4) rfl))) (mvT hZ (hw _ (List.mem_of_getElem? (i := 5) rfl))) (mvT hZ (hw _ (List.mem_of_getElem? (i := 6) rfl))) (by decide) (backOf (W := 1) (rm1 l Z a0 hw [] b6_8 (1 : Int32) (1 : Int32) (1 : Int32) (4 : Int32) (3 : Int32) (.int 0) (.int 0) (.int 0) (.int 0) (.int 0) h6_8 n0 (Nat.le_trans Z0 E6_8.1) E_b6_8 F_tiled_b6_8 g_b6_8 F_blockWidth_b6_8 F_blockHeight_b6_8 F_blocksAcross_b6_8 F_blocksDown_b6_8) hZ (hw _ (List.mem_of_getElem? (i := 6) rfl)) (hw _ (List.mem_of_getElem? (i := 3) rfl)) (by decide) (by decide)) (g := (mkF m 78 #[.val (.int p1), .val (.int p2), .val (.int p3), .val (.int p4), .val (.int p5), .val (.int f0), .val (.int f1), .val (.int pp), .val (.int qq), .val (.int cc0), .val (.int cc1), .val (.int bx), .val (.int by'), .unset, .unset, .unset, .unset, .unset] [(.int (3 : Int32)), (.int (4 : Int32)), (.int (1 : Int32)), (.int (1 : Int32)), (.int (1 : Int32)), (.ref b6_8), (.ref b6_8)])) rfl (by rw [hml]; rfl) (Steps.refl _) (a := b6_8) (argsL := [(.int (1 : Int32)), (.int (1 : Int32)), (.int (1 : Int32)), (.int (4 : Int32)), (.int (3 : Int32))]) (rest := [(.ref b6_8)]) (lenOf pd_8 rfl) rfl (by show 2 * 0 + _ ≤ _; exact Nat.le_of_eq rfl) (hb hby at_78) (fun _ _ => ⟨rfl, e6_8, (by decide : 0 + 1 + 0 ≤ _), (by decide : 0 + 5 + 0 ≤ _)⟩)
  dsimp only [Pt.U, Pt.locs, Pt.cells, Pt.slots] at X7_8 l7_8 y7_8 z7_8 st7_8 hQ7_8
  subst l7_8 y7_8 z7_8
  obtain ⟨rfl, N7q_8, K7_8, Exl, Fba, Fbd⟩ := hQ7_8
  have N7_8 := Fr.app N0 N7q_8
  obtain ⟨T8_8, h8_8, X8_8, e8_8, E8_8, A8_8, D8_8, -, st8_8⟩ := newO X7_8 hx hZ hown (hw _ (List.mem_of_getElem? (i := 25) rfl)) (hw _ (List.mem_of_getElem? (i := 26) rfl)) (hw _ (List.mem_of_getElem? (i := 27) rfl)) rfl (g := (mkF m 83 #[.val (.int p1), .val (.int p2), .val (.int p3), .val (.int p4), .val (.int p5), .val (.int f0), .val (.int f1), .val (.int pp), .val (.int qq), .val (.int cc0), .val (.int cc1), .val (.int bx), .val (.int by'), .val (.ref b6_8), .unset, .unset, .unset, .unset] [])) rfl (hb hby at_83) (by decide) (by decide)
  obtain ⟨b8_8, g8_8⟩ : ∃ z, z = T7_8.heap.size := ⟨_, rfl⟩
  rw [← g8_8] at A8_8 D8_8 st8_8
  have F_runs_b8_8 : Fld Z h8_8 b8_8 "com/example/tilecairn/tilecairn/zonal/CoveredBlocks$Builder" "runs" "[I" .null := D8_8 (Or.inl (hw _ (List.mem_of_getElem? (i := 34) rfl))) (ty := (.array .int)) (by decide)
  have F_layout_b8_8 : Fld Z h8_8 b8_8 "com/example/tilecairn/tilecairn/zonal/CoveredBlocks$Builder" "layout" "Lcom/example/tilecairn/tilecairn/tiff/Layout;" .null := D8_8 (Or.inr (hw _ (List.mem_of_getElem? (i := 36) rfl))) (ty := (.object "com/example/tilecairn/tilecairn/tiff/Layout")) (by decide)
  have F_starts_b8_8 : Fld Z h8_8 b8_8 "com/example/tilecairn/tilecairn/zonal/CoveredBlocks$Builder" "starts" "[I" .null := D8_8 (Or.inr (hw _ (List.mem_of_getElem? (i := 43) rfl))) (ty := (.array .int)) (by decide)
  have F_openRun_b8_8 : Fld Z h8_8 b8_8 "com/example/tilecairn/tilecairn/zonal/CoveredBlocks$Builder" "openRun" "[I" .null := D8_8 (Or.inr (hw _ (List.mem_of_getElem? (i := 45) rfl))) (ty := (.array .int)) (by decide)
  have F_openRow_b8_8 : Fld Z h8_8 b8_8 "com/example/tilecairn/tilecairn/zonal/CoveredBlocks$Builder" "openRow" "[I" .null := D8_8 (Or.inr (hw _ (List.mem_of_getElem? (i := 47) rfl))) (ty := (.array .int)) (by decide)
  have F_blockRow_b8_8 : Fld Z h8_8 b8_8 "com/example/tilecairn/tilecairn/zonal/CoveredBlocks$Builder" "blockRow" "I" (.int (0 : Int32)) := D8_8 (Or.inl (hw _ (List.mem_of_getElem? (i := 58) rfl))) (ty := .int) (by decide)
  have F_runCount_b8_8 : Fld Z h8_8 b8_8 "com/example/tilecairn/tilecairn/zonal/CoveredBlocks$Builder" "runCount" "I" (.int (0 : Int32)) := D8_8 (Or.inl (hw _ (List.mem_of_getElem? (i := 60) rfl))) (ty := .int) (by decide)
  have E_b8_8 := A8_8
  have g_b8_8 : n0 ≤ b8_8 := Nat.le_trans (Nat.le_trans (Nat.le_trans Z0 E6_8.1) K7_8.1) (Nat.le_of_eq g8_8.symm)
  have sz_b8_8 : h0.size ≤ b8_8 := (Nat.le_trans (K6_8.trans K7_8 (allS (Or.inr sz_b6_8) all0)).1 (Nat.le_of_eq g8_8.symm))
  have K8_8 : Keep h0 h8_8 [] := (K6_8.trans K7_8 (allS (Or.inr sz_b6_8) all0)).ext E8_8
  obtain ⟨_, _, ⟨T9_8, L9_8, k9_8, n9_8⟩, -, X9_8, ⟨Lc9_8, hQ9_8, l9_8, y9_8, z9_8⟩, st9_8⟩ := X8_8.specialBack hx (y := (⟨"com/example/tilecairn/tilecairn/zonal/CoveredBlocks$Builder", "<init>", "(Lcom/example/tilecairn/tilecairn/tiff/Layout;I)V"⟩ : MethodName)) rfl hown (mvT hZ (hw _ (List.mem_of_getElem? (i := 28) rfl))) (mvT hZ (hw _ (List.mem_of_getElem? (i := 29) rfl))) (mvT hZ (hw _ (List.mem_of_getElem? (i := 30) rfl))) (by decide) (backOf (W := 1) (rm4 l Z a0 hw [] b8_8 b6_8 (2 : Int32) .null .null .null .null .null h8_8 n0 (Nat.le_trans (Nat.le_trans (Nat.le_trans Z0 E6_8.1) K7_8.1) E8_8.1) E_b8_8 F_runs_b8_8 g_b8_8 F_layout_b8_8 (Exl.ext E8_8) F_starts_b8_8 F_openRun_b8_8 F_openRow_b8_8 (Fba.ext E8_8) (Fbd.ext E8_8) F_runCount_b8_8 F_blockRow_b8_8 (by rw [g8_8]; exact Exl.lt) rfl) hZ (hw _ (List.mem_of_getElem? (i := 30) rfl)) (hw _ (List.mem_of_getElem? (i := 27) rfl)) (by decide) (by decide)) (g := (mkF m 90 #[.val (.int p1), .val (.int p2), .val (.int p3), .val (.int p4), .val (.int p5), .val (.int f0), .val (.int f1), .val (.int pp), .val (.int qq), .val (.int cc0), .val (.int cc1), .val (.int bx), .val (.int by'), .val (.ref b6_8), .unset, .unset, .unset, .unset] [(.int (2 : Int32)), (.ref b6_8), (.ref b8_8), (.ref b8_8)])) rfl (by rw [hml]; rfl) (Steps.refl _) (a := b8_8) (argsL := [(.ref b6_8), (.int (2 : Int32))]) (rest := [(.ref b8_8)]) (lenOf pd_9 rfl) rfl (by show 2 * 0 + _ ≤ _; exact Nat.le_of_eq rfl) (hb hby at_90) (fun _ _ => ⟨rfl, e8_8, (by decide : 0 + 2 + 4 ≤ _), (by decide : 0 + 12 + 200 ≤ _)⟩)
  dsimp only [Pt.U, Pt.locs, Pt.cells, Pt.slots] at X9_8 l9_8 y9_8 z9_8 st9_8 hQ9_8
  subst l9_8 y9_8 z9_8
  obtain ⟨rfl, N9q_8, ZB, ru, sa, on, ow, hch4, SB⟩ := hQ9_8
  have N9_8 := Fr.app N7_8 N9q_8
  have st_8p : ∀ target, Steps p.tables e below (T9_8.setTop (mkF m 95 #[.val (.int p1), .val (.int p2), .val (.int p3), .val (.int p4), .val (.int p5), .val (.int f0), .val (.int f1), .val (.int pp), .val (.int qq), .val (.int cc0), .val (.int cc1), .val (.int bx), .val (.int by'), .val (.ref b6_8), .val (.ref b8_8), .unset, .unset, .unset] [])) target → Steps p.tables e below (s₁.setTop (mkF m 69 #[.val (.int p1), .val (.int p2), .val (.int p3), .val (.int p4), .val (.int p5), .val (.int f0), .val (.int f1), .val (.int pp), .val (.int qq), .val (.int cc0), .val (.int cc1), .val (.int bx), .val (.int by'), .unset, .unset, .unset, .unset, .unset] [])) target := by
    intro target kt
    show Steps p.tables e below (s₁.setTop (mkF m 69 #[.val (.int p1), .val (.int p2), .val (.int p3), .val (.int p4), .val (.int p5), .val (.int f0), .val (.int f1), .val (.int pp), .val (.int qq), .val (.int cc0), .val (.int cc1), .val (.int bx), .val (.int by'), .unset, .unset, .unset, .unset, .unset] [])) _
    refine st6_8 _ ?_
    show Steps p.tables e below (T6_8.setTop (mkF m 72 #[.val (.int p1), .val (.int p2), .val (.int p3), .val (.int p4), .val (.int p5), .val (.int f0), .val (.int f1), .val (.int pp), .val (.int qq), .val (.int cc0), .val (.int cc1), .val (.int bx), .val (.int by'), .unset, .unset, .unset, .unset, .unset] [(.ref b6_8)])) _
    refine XS.dup X6_8.here hx rfl (hb hby at_72) rfl rfl ?_
    show Steps p.tables e below (T6_8.setTop (mkF m 73 #[.val (.int p1), .val (.int p2), .val (.int p3), .val (.int p4), .val (.int p5), .val (.int f0), .val (.int f1), .val (.int pp), .val (.int qq), .val (.int cc0), .val (.int cc1), .val (.int bx), .val (.int by'), .unset, .unset, .unset, .unset, .unset] [(.ref b6_8), (.ref b6_8)])) _
    refine XS.iconst X6_8.here hx rfl (hb hby at_73) ?_
    show Steps p.tables e below (T6_8.setTop (mkF m 74 #[.val (.int p1), .val (.int p2), .val (.int p3), .val (.int p4), .val (.int p5), .val (.int f0), .val (.int f1), .val (.int pp), .val (.int qq), .val (.int cc0), .val (.int cc1), .val (.int bx), .val (.int by'), .unset, .unset, .unset, .unset, .unset] [(.int (1 : Int32)), (.ref b6_8), (.ref b6_8)])) _
    refine XS.iconst X6_8.here hx rfl (hb hby at_74) ?_
    show Steps p.tables e below (T6_8.setTop (mkF m 75 #[.val (.int p1), .val (.int p2), .val (.int p3), .val (.int p4), .val (.int p5), .val (.int f0), .val (.int f1), .val (.int pp), .val (.int qq), .val (.int cc0), .val (.int cc1), .val (.int bx), .val (.int by'), .unset, .unset, .unset, .unset, .unset] [(.int (1 : Int32)), (.int (1 : Int32)), (.ref b6_8), (.ref b6_8)])) _
    refine XS.iconst X6_8.here hx rfl (hb hby at_75) ?_
    show Steps p.tables e below (T6_8.setTop (mkF m 76 #[.val (.int p1), .val (.int p2), .val (.int p3), .val (.int p4), .val (.int p5), .val (.int f0), .val (.int f1), .val (.int pp), .val (.int qq), .val (.int cc0), .val (.int cc1), .val (.int bx), .val (.int by'), .unset, .unset, .unset, .unset, .unset] [(.int (1 : Int32)), (.int (1 : Int32)), (.int (1 : Int32)), (.ref b6_8), (.ref b6_8)])) _
    refine XS.iconst X6_8.here hx rfl (hb hby at_76) ?_
    show Steps p.tables e below (T6_8.setTop (mkF m 77 #[.val (.int p1), .val (.int p2), .val (.int p3), .val (.int p4), .val (.int p5), .val (.int f0), .val (.int f1), .val (.int pp), .val (.int qq), .val (.int cc0), .val (.int cc1), .val (.int bx), .val (.int by'), .unset, .unset, .unset, .unset, .unset] [(.int (4 : Int32)), (.int (1 : Int32)), (.int (1 : Int32)), (.int (1 : Int32)), (.ref b6_8), (.ref b6_8)])) _
    refine XS.iconst X6_8.here hx rfl (hb hby at_77) ?_
    show Steps p.tables e below (T6_8.setTop (mkF m 78 #[.val (.int p1), .val (.int p2), .val (.int p3), .val (.int p4), .val (.int p5), .val (.int f0), .val (.int f1), .val (.int pp), .val (.int qq), .val (.int cc0), .val (.int cc1), .val (.int bx), .val (.int by'), .unset, .unset, .unset, .unset, .unset] [(.int (3 : Int32)), (.int (4 : Int32)), (.int (1 : Int32)), (.int (1 : Int32)), (.int (1 : Int32)), (.ref b6_8), (.ref b6_8)])) _
    refine st7_8.trans ?_
    show Steps p.tables e below (T7_8.setTop (mkF m 81 #[.val (.int p1), .val (.int p2), .val (.int p3), .val (.int p4), .val (.int p5), .val (.int f0), .val (.int f1), .val (.int pp), .val (.int qq), .val (.int cc0), .val (.int cc1), .val (.int bx), .val (.int by'), .unset, .unset, .unset, .unset, .unset] [(.ref b6_8)])) _
    refine XS.astore X7_8.here hx rfl (hb hby at_81) rfl rfl (l' := #[.val (.int p1), .val (.int p2), .val (.int p3), .val (.int p4), .val (.int p5), .val (.int f0), .val (.int f1), .val (.int pp), .val (.int qq), .val (.int cc0), .val (.int cc1), .val (.int bx), .val (.int by'), .val (.ref b6_8), .unset, .unset, .unset, .unset]) rfl ?_
    show Steps p.tables e below (T7_8.setTop (mkF m 83 #[.val (.int p1), .val (.int p2), .val (.int p3), .val (.int p4), .val (.int p5), .val (.int f0), .val (.int f1), .val (.int pp), .val (.int qq), .val (.int cc0), .val (.int cc1), .val (.int bx), .val (.int by'), .val (.ref b6_8), .unset, .unset, .unset, .unset] [])) _
    refine st8_8 _ ?_
    show Steps p.tables e below (T8_8.setTop (mkF m 86 #[.val (.int p1), .val (.int p2), .val (.int p3), .val (.int p4), .val (.int p5), .val (.int f0), .val (.int f1), .val (.int pp), .val (.int qq), .val (.int cc0), .val (.int cc1), .val (.int bx), .val (.int by'), .val (.ref b6_8), .unset, .unset, .unset, .unset] [(.ref b8_8)])) _
    refine XS.dup X8_8.here hx rfl (hb hby at_86) rfl rfl ?_
    show Steps p.tables e below (T8_8.setTop (mkF m 87 #[.val (.int p1), .val (.int p2), .val (.int p3), .val (.int p4), .val (.int p5), .val (.int f0), .val (.int f1), .val (.int pp), .val (.int qq), .val (.int cc0), .val (.int cc1), .val (.int bx), .val (.int by'), .val (.ref b6_8), .unset, .unset, .unset, .unset] [(.ref b8_8), (.ref b8_8)])) _
    refine XS.aload X8_8.here hx rfl (hb hby at_87) rfl rfl ?_
    show Steps p.tables e below (T8_8.setTop (mkF m 89 #[.val (.int p1), .val (.int p2), .val (.int p3), .val (.int p4), .val (.int p5), .val (.int f0), .val (.int f1), .val (.int pp), .val (.int qq), .val (.int cc0), .val (.int cc1), .val (.int bx), .val (.int by'), .val (.ref b6_8), .unset, .unset, .unset, .unset] [(.ref b6_8), (.ref b8_8), (.ref b8_8)])) _
    refine XS.iconst X8_8.here hx rfl (hb hby at_89) ?_
    show Steps p.tables e below (T8_8.setTop (mkF m 90 #[.val (.int p1), .val (.int p2), .val (.int p3), .val (.int p4), .val (.int p5), .val (.int f0), .val (.int f1), .val (.int pp), .val (.int qq), .val (.int cc0), .val (.int cc1), .val (.int bx), .val (.int by'), .val (.ref b6_8), .unset, .unset, .unset, .unset] [(.int (2 : Int32)), (.ref b6_8), (.ref b8_8), (.ref b8_8)])) _
    refine st9_8.trans ?_
    show Steps p.tables e below (T9_8.setTop (mkF m 93 #[.val (.int p1), .val (.int p2), .val (.int p3), .val (.int p4), .val (.int p5), .val (.int f0), .val (.int f1), .val (.int pp), .val (.int qq), .val (.int cc0), .val (.int cc1), .val (.int bx), .val (.int by'), .val (.ref b6_8), .unset, .unset, .unset, .unset] [(.ref b8_8)])) _
    refine XS.astore X9_8.here hx rfl (hb hby at_93) rfl rfl (l' := #[.val (.int p1), .val (.int p2), .val (.int p3), .val (.int p4), .val (.int p5), .val (.int f0), .val (.int f1), .val (.int pp), .val (.int qq), .val (.int cc0), .val (.int cc1), .val (.int bx), .val (.int by'), .val (.ref b6_8), .val (.ref b8_8), .unset, .unset, .unset]) rfl ?_
    exact kt
  have hch : @LT.lt Nat _ b6_8 b8_8 ∧ @LT.lt Nat _ b8_8 ru ∧ @LT.lt Nat _ ru sa ∧ @LT.lt Nat _ sa on ∧ @LT.lt Nat _ on ow := ⟨by rw [g8_8]; exact Exl.lt, hch4⟩
  have gl := g_b6_8
  obtain ⟨TA, hA, LA, rc1, rs1, XA, eA, ZA, NA, SA, RA, stA⟩ : ∃ (T' : State) (h' : Heap) (L' : List Loc) (rc1 : Int32) (rs1 : List Value), Stand p l e room_1 s m #[(.int p1), (.int p2), (.int p3), (.int p4), (.int p5)] below meth c T' L' (0 + 2 + 4) (0 + 12 + 200) ∧ T'.heap = h' ∧ n0 ≤ h'.size ∧ Fr n0 L' ∧ (own_B Z h' b6_8 b8_8 ru sa on ow rc1 1 rs1 [.int 0, .int rc1, .int 0, .int 0] 0) ∧ (own_R1 f0 pp cc0 rc1 rs1) ∧ ∀ target, Steps p.tables e below (T'.setTop (mkF m 114 #[.val (.int p1), .val (.int p2), .val (.int p3), .val (.int p4), .val (.int p5), .val (.int f0), .val (.int f1), .val (.int pp), .val (.int qq), .val (.int cc0), .val (.int cc1), .val (.int bx), .val (.int by'), .val (.ref b6_8), .val (.ref b8_8), .unset, .unset, .unset] [])) target → Steps p.tables e below (T9_8.setTop (mkF m 95 #[.val (.int p1), .val (.int p2), .val (.int p3), .val (.int p4), .val (.int p5), .val (.int f0), .val (.int f1), .val (.int pp), .val (.int qq), .val (.int cc0), .val (.int cc1), .val (.int bx), .val (.int by'), .val (.ref b6_8), .val (.ref b8_8), .unset, .unset, .unset] [])) target := by
    by_cases hf : f0 = (0 : Int32)
    · have hc97_9 : f0 = (0 : Int32) := hf
      obtain ⟨cq6_9, kq6_9, q6a_9, q6b_9, q6c_9⟩ := isOf hZ (rfl : T9_8.heap = _) SB.1
      obtain ⟨_, _, ⟨T6_9, L6_9, k6_9, n6_9⟩, -, X6_9, ⟨Lc6_9, hQ6_9, l6_9, y6_9, z6_9⟩, st6_9⟩ := X9_8.virtualBack hx (y := (⟨"com/example/tilecairn/tilecairn/zonal/CoveredBlocks$Builder", "endRow", "()V"⟩ : MethodName)) (z := (⟨"com/example/tilecairn/tilecairn/zonal/CoveredBlocks$Builder", "endRow", "()V"⟩ : MethodName)) hown (mvT hZ (hw _ (List.mem_of_getElem? (i := 52) rfl))) (mvT hZ (hw _ (List.mem_of_getElem? (i := 53) rfl))) (notFace_of_selects (args := #[]) (mvT hZ (hw _ (List.mem_of_getElem? (i := 55) rfl)))) (mvT hZ (hw _ (List.mem_of_getElem? (i := 55) rfl))) (mvT hZ (hw _ (List.mem_of_getElem? (i := 54) rfl))) (by decide) (backOf (W := 0) (rm7 l Z a0 hw [] b8_8 b6_8 ru sa on ow 0 0 [.int 0, .int 0, .int 0, .int 0, .int 0, .int 0] [.int 0, .int 0, .int 0, .int 0] (-1) T9_8.heap n0 ZB SB rfl (by decide) hch gl) hZ (hw _ (List.mem_of_getElem? (i := 56) rfl)) (hw _ (List.mem_of_getElem? (i := 27) rfl)) (by decide) (by decide)) q6a_9 q6c_9 (g := (mkF m 111 #[.val (.int p1), .val (.int p2), .val (.int p3), .val (.int p4), .val (.int p5), .val (.int f0), .val (.int f1), .val (.int pp), .val (.int qq), .val (.int cc0), .val (.int cc1), .val (.int bx), .val (.int by'), .val (.ref b6_8), .val (.ref b8_8), .unset, .unset, .unset] [(.ref b8_8)])) rfl (by rw [hml]; rfl) (Steps.refl _) (argsL := []) (rest := []) (lenOf pd_0 rfl) rfl (by show 2 * 0 + _ ≤ _; exact Nat.le_of_eq rfl) (hb hby at_111) (fun _ _ => ⟨rfl, (rfl : T9_8.heap = _), (by decide : 0 + 2 + 4 + 0 ≤ _), (by decide : 0 + 12 + 200 + 0 ≤ _)⟩)
      dsimp only [Pt.U, Pt.locs, Pt.cells, Pt.slots] at X6_9 l6_9 y6_9 z6_9 st6_9 hQ6_9
      subst l6_9 y6_9 z6_9
      obtain ⟨rfl, N6q_9, Zn_9, Sn_9⟩ := hQ6_9
      have N6_9 := Fr.app N9_8 N6q_9
      have st_9p : ∀ target, Steps p.tables e below (T6_9.setTop (mkF m 114 #[.val (.int p1), .val (.int p2), .val (.int p3), .val (.int p4), .val (.int p5), .val (.int f0), .val (.int f1), .val (.int pp), .val (.int qq), .val (.int cc0), .val (.int cc1), .val (.int bx), .val (.int by'), .val (.ref b6_8), .val (.ref b8_8), .unset, .unset, .unset] [])) target → Steps p.tables e below (T9_8.setTop (mkF m 95 #[.val (.int p1), .val (.int p2), .val (.int p3), .val (.int p4), .val (.int p5), .val (.int f0), .val (.int f1), .val (.int pp), .val (.int qq), .val (.int cc0), .val (.int cc1), .val (.int bx), .val (.int by'), .val (.ref b6_8), .val (.ref b8_8), .unset, .unset, .unset] [])) target := by
        intro target kt
        show Steps p.tables e below (T9_8.setTop (mkF m 95 #[.val (.int p1), .val (.int p2), .val (.int p3), .val (.int p4), .val (.int p5), .val (.int f0), .val (.int f1), .val (.int pp), .val (.int qq), .val (.int cc0), .val (.int cc1), .val (.int bx), .val (.int by'), .val (.ref b6_8), .val (.ref b8_8), .unset, .unset, .unset] [])) _
        refine XS.iload X9_8.here hx rfl (hb hby at_95) rfl ?_
        show Steps p.tables e below (T9_8.setTop (mkF m 97 #[.val (.int p1), .val (.int p2), .val (.int p3), .val (.int p4), .val (.int p5), .val (.int f0), .val (.int f1), .val (.int pp), .val (.int qq), .val (.int cc0), .val (.int cc1), .val (.int bx), .val (.int by'), .val (.ref b6_8), .val (.ref b8_8), .unset, .unset, .unset] [(.int f0)])) _
        refine XS.ifYes X9_8.here hx rfl (pc0 := 97) (pc' := 109) rfl (hb hby at_97) rfl ((if0 _ _).trans (teq hc97_9).1) (by decide) (by decide) ?_
        show Steps p.tables e below (T9_8.setTop (mkF m 109 #[.val (.int p1), .val (.int p2), .val (.int p3), .val (.int p4), .val (.int p5), .val (.int f0), .val (.int f1), .val (.int pp), .val (.int qq), .val (.int cc0), .val (.int cc1), .val (.int bx), .val (.int by'), .val (.ref b6_8), .val (.ref b8_8), .unset, .unset, .unset] [])) _
        refine XS.aload X9_8.here hx rfl (hb hby at_109) rfl rfl ?_
        show Steps p.tables e below (T9_8.setTop (mkF m 111 #[.val (.int p1), .val (.int p2), .val (.int p3), .val (.int p4), .val (.int p5), .val (.int f0), .val (.int f1), .val (.int pp), .val (.int qq), .val (.int cc0), .val (.int cc1), .val (.int bx), .val (.int by'), .val (.ref b6_8), .val (.ref b8_8), .unset, .unset, .unset] [(.ref b8_8)])) _
        refine st6_9.trans ?_
        exact kt
      exact ⟨_, _, _, 0, [.int 0, .int 0, .int 0, .int 0, .int 0, .int 0], X6_9, rfl, Zn_9, N6_9, own_Bc Sn_9 rfl (by decide) rfl (by rw [show ((0 : Int32) + (1 : Int32)).toNatClampNeg = 1 from by decide]; rfl) (by decide), Or.inl ⟨hf, rfl, rfl⟩, fun target kt => st_9p _ (kt)⟩
    · have hc97_10 : ¬ (f0 = (0 : Int32)) := hf
      obtain ⟨cq6_10, kq6_10, q6a_10, q6b_10, q6c_10⟩ := isOf hZ (rfl : T9_8.heap = _) SB.1
      obtain ⟨_, _, ⟨T6_10, L6_10, k6_10, n6_10⟩, -, X6_10, ⟨Lc6_10, hQ6_10, l6_10, y6_10, z6_10⟩, st6_10⟩ := X9_8.virtualBack hx (y := (⟨"com/example/tilecairn/tilecairn/zonal/CoveredBlocks$Builder", "add", "(II)V"⟩ : MethodName)) (z := (⟨"com/example/tilecairn/tilecairn/zonal/CoveredBlocks$Builder", "add", "(II)V"⟩ : MethodName)) hown (mvT hZ (hw _ (List.mem_of_getElem? (i := 114) rfl))) (mvT hZ (hw _ (List.mem_of_getElem? (i := 115) rfl))) (notFace_of_selects (args := #[]) (mvT hZ (hw _ (List.mem_of_getElem? (i := 117) rfl)))) (mvT hZ (hw _ (List.mem_of_getElem? (i := 117) rfl))) (mvT hZ (hw _ (List.mem_of_getElem? (i := 116) rfl))) (by decide) (backOf (W := 0) (rm15 l Z a0 hw [] b8_8 pp cc0 b6_8 ru sa on ow 0 0 [.int 0, .int 0, .int 0, .int 0, .int 0, .int 0] [.int 0, .int 0, .int 0, .int 0] (-1) T9_8.heap n0 ZB SB rfl (Or.inl rfl) (own_pp hpp) (by decide) hch gl) hZ (hw _ (List.mem_of_getElem? (i := 118) rfl)) (hw _ (List.mem_of_getElem? (i := 27) rfl)) (by decide) (by decide)) q6a_10 q6c_10 (g := (mkF m 106 #[.val (.int p1), .val (.int p2), .val (.int p3), .val (.int p4), .val (.int p5), .val (.int f0), .val (.int f1), .val (.int pp), .val (.int qq), .val (.int cc0), .val (.int cc1), .val (.int bx), .val (.int by'), .val (.ref b6_8), .val (.ref b8_8), .unset, .unset, .unset] [(.int cc0), (.int pp), (.ref b8_8)])) rfl (by rw [hml]; rfl) (Steps.refl _) (argsL := [(.int pp), (.int cc0)]) (rest := []) (lenOf pd_13 rfl) rfl (by show 2 * 0 + _ ≤ _; exact Nat.le_of_eq rfl) (hb hby at_106) (fun _ _ => ⟨rfl, (rfl : T9_8.heap = _), (by decide : 0 + 2 + 4 + 0 ≤ _), (by decide : 0 + 12 + 200 + 0 ≤ _)⟩)
      dsimp only [Pt.U, Pt.locs, Pt.cells, Pt.slots] at X6_10 l6_10 y6_10 z6_10 st6_10 hQ6_10
      subst l6_10 y6_10 z6_10
      obtain ⟨rfl, N6q_10, Za_10, Sa_10⟩ := hQ6_10
      have N6_10 := Fr.app N9_8 N6q_10
      obtain ⟨cq7_10, kq7_10, q7a_10, q7b_10, q7c_10⟩ := isOf hZ rfl Sa_10.1
      obtain ⟨_, _, ⟨T7_10, L7_10, k7_10, n7_10⟩, -, X7_10, ⟨Lc7_10, hQ7_10, l7_10, y7_10, z7_10⟩, st7_10⟩ := X6_10.virtualBack hx (y := (⟨"com/example/tilecairn/tilecairn/zonal/CoveredBlocks$Builder", "endRow", "()V"⟩ : MethodName)) (z := (⟨"com/example/tilecairn/tilecairn/zonal/CoveredBlocks$Builder", "endRow", "()V"⟩ : MethodName)) hown (mvT hZ (hw _ (List.mem_of_getElem? (i := 52) rfl))) (mvT hZ (hw _ (List.mem_of_getElem? (i := 53) rfl))) (notFace_of_selects (args := #[]) (mvT hZ (hw _ (List.mem_of_getElem? (i := 55) rfl)))) (mvT hZ (hw _ (List.mem_of_getElem? (i := 55) rfl))) (mvT hZ (hw _ (List.mem_of_getElem? (i := 54) rfl))) (by decide) (backOf (W := 0) (rm7 l Z a0 hw [] b8_8 b6_8 ru sa on ow (0 + (1 : Int32)) 0 (own_put [.int 0, .int 0, .int 0, .int 0, .int 0, .int 0] 0 cc0 pp) [.int 0, .int 0, .int 0, .int 0] (0 : Int32).toInt T6_10.heap n0 Za_10 Sa_10 rfl (by decide) hch gl) hZ (hw _ (List.mem_of_getElem? (i := 56) rfl)) (hw _ (List.mem_of_getElem? (i := 27) rfl)) (by decide) (by decide)) q7a_10 q7c_10 (g := (mkF m 111 #[.val (.int p1), .val (.int p2), .val (.int p3), .val (.int p4), .val (.int p5), .val (.int f0), .val (.int f1), .val (.int pp), .val (.int qq), .val (.int cc0), .val (.int cc1), .val (.int bx), .val (.int by'), .val (.ref b6_8), .val (.ref b8_8), .unset, .unset, .unset] [(.ref b8_8)])) rfl (by rw [hml]; rfl) (Steps.refl _) (argsL := []) (rest := []) (lenOf pd_0 rfl) rfl (by show 2 * 0 + _ ≤ _; exact Nat.le_of_eq rfl) (hb hby at_111) (fun _ _ => ⟨rfl, rfl, (by decide : 0 + 2 + 4 + 0 ≤ _), (by decide : 0 + 12 + 200 + 0 ≤ _)⟩)
      dsimp only [Pt.U, Pt.locs, Pt.cells, Pt.slots] at X7_10 l7_10 y7_10 z7_10 st7_10 hQ7_10
      subst l7_10 y7_10 z7_10
      obtain ⟨rfl, N7q_10, Zn_10, Sn_10⟩ := hQ7_10
      have N7_10 := Fr.app N6_10 N7q_10
      have st_10p : ∀ target, Steps p.tables e below (T7_10.setTop (mkF m 114 #[.val (.int p1), .val (.int p2), .val (.int p3), .val (.int p4), .val (.int p5), .val (.int f0), .val (.int f1), .val (.int pp), .val (.int qq), .val (.int cc0), .val (.int cc1), .val (.int bx), .val (.int by'), .val (.ref b6_8), .val (.ref b8_8), .unset, .unset, .unset] [])) target → Steps p.tables e below (T9_8.setTop (mkF m 95 #[.val (.int p1), .val (.int p2), .val (.int p3), .val (.int p4), .val (.int p5), .val (.int f0), .val (.int f1), .val (.int pp), .val (.int qq), .val (.int cc0), .val (.int cc1), .val (.int bx), .val (.int by'), .val (.ref b6_8), .val (.ref b8_8), .unset, .unset, .unset] [])) target := by
        intro target kt
        show Steps p.tables e below (T9_8.setTop (mkF m 95 #[.val (.int p1), .val (.int p2), .val (.int p3), .val (.int p4), .val (.int p5), .val (.int f0), .val (.int f1), .val (.int pp), .val (.int qq), .val (.int cc0), .val (.int cc1), .val (.int bx), .val (.int by'), .val (.ref b6_8), .val (.ref b8_8), .unset, .unset, .unset] [])) _
        refine XS.iload X9_8.here hx rfl (hb hby at_95) rfl ?_
        show Steps p.tables e below (T9_8.setTop (mkF m 97 #[.val (.int p1), .val (.int p2), .val (.int p3), .val (.int p4), .val (.int p5), .val (.int f0), .val (.int f1), .val (.int pp), .val (.int qq), .val (.int cc0), .val (.int cc1), .val (.int bx), .val (.int by'), .val (.ref b6_8), .val (.ref b8_8), .unset, .unset, .unset] [(.int f0)])) _
        refine XS.ifNo X9_8.here hx rfl (hb hby at_97) rfl ((if0 _ _).trans (feq hc97_10).1) ?_
        show Steps p.tables e below (T9_8.setTop (mkF m 100 #[.val (.int p1), .val (.int p2), .val (.int p3), .val (.int p4), .val (.int p5), .val (.int f0), .val (.int f1), .val (.int pp), .val (.int qq), .val (.int cc0), .val (.int cc1), .val (.int bx), .val (.int by'), .val (.ref b6_8), .val (.ref b8_8), .unset, .unset, .unset] [])) _
        refine XS.aload X9_8.here hx rfl (hb hby at_100) rfl rfl ?_
        show Steps p.tables e below (T9_8.setTop (mkF m 102 #[.val (.int p1), .val (.int p2), .val (.int p3), .val (.int p4), .val (.int p5), .val (.int f0), .val (.int f1), .val (.int pp), .val (.int qq), .val (.int cc0), .val (.int cc1), .val (.int bx), .val (.int by'), .val (.ref b6_8), .val (.ref b8_8), .unset, .unset, .unset] [(.ref b8_8)])) _
        refine XS.iload X9_8.here hx rfl (hb hby at_102) rfl ?_
        show Steps p.tables e below (T9_8.setTop (mkF m 104 #[.val (.int p1), .val (.int p2), .val (.int p3), .val (.int p4), .val (.int p5), .val (.int f0), .val (.int f1), .val (.int pp), .val (.int qq), .val (.int cc0), .val (.int cc1), .val (.int bx), .val (.int by'), .val (.ref b6_8), .val (.ref b8_8), .unset, .unset, .unset] [(.int pp), (.ref b8_8)])) _
        refine XS.iload X9_8.here hx rfl (hb hby at_104) rfl ?_
        show Steps p.tables e below (T9_8.setTop (mkF m 106 #[.val (.int p1), .val (.int p2), .val (.int p3), .val (.int p4), .val (.int p5), .val (.int f0), .val (.int f1), .val (.int pp), .val (.int qq), .val (.int cc0), .val (.int cc1), .val (.int bx), .val (.int by'), .val (.ref b6_8), .val (.ref b8_8), .unset, .unset, .unset] [(.int cc0), (.int pp), (.ref b8_8)])) _
        refine st6_10.trans ?_
        show Steps p.tables e below (T6_10.setTop (mkF m 109 #[.val (.int p1), .val (.int p2), .val (.int p3), .val (.int p4), .val (.int p5), .val (.int f0), .val (.int f1), .val (.int pp), .val (.int qq), .val (.int cc0), .val (.int cc1), .val (.int bx), .val (.int by'), .val (.ref b6_8), .val (.ref b8_8), .unset, .unset, .unset] [])) _
        refine XS.aload X6_10.here hx rfl (hb hby at_109) rfl rfl ?_
        show Steps p.tables e below (T6_10.setTop (mkF m 111 #[.val (.int p1), .val (.int p2), .val (.int p3), .val (.int p4), .val (.int p5), .val (.int f0), .val (.int f1), .val (.int pp), .val (.int qq), .val (.int cc0), .val (.int cc1), .val (.int bx), .val (.int by'), .val (.ref b6_8), .val (.ref b8_8), .unset, .unset, .unset] [(.ref b8_8)])) _
        refine st7_10.trans ?_
        exact kt
      exact ⟨_, _, _, 1, [.int cc0, .int (cc0 + (1 : Int32)), .int pp, .int 0, .int 0, .int 0], X7_10, rfl, Zn_10, N7_10, own_Bc Sn_10 (by decide) (by decide) (own_put0 _ _ _ _ _ _ _ _) (by rw [show ((0 : Int32) + (1 : Int32)).toNatClampNeg = 1 from by decide]; rfl) (by decide), Or.inr ⟨hf, rfl, rfl⟩, fun target kt => st_10p _ (kt)⟩
  obtain ⟨TB, hB, LB, rc2, rs2, XB, eB, ZB, NB, SB, RB, stB⟩ : ∃ (T' : State) (h' : Heap) (L' : List Loc) (rc2 : Int32) (rs2 : List Value), Stand p l e room_1 s m #[(.int p1), (.int p2), (.int p3), (.int p4), (.int p5)] below meth c T' L' (0 + 2 + 4) (0 + 12 + 200) ∧ T'.heap = h' ∧ n0 ≤ h'.size ∧ Fr n0 L' ∧ (own_B Z h' b6_8 b8_8 ru sa on ow rc2 2 rs2 [.int 0, .int rc1, .int rc2, .int 0] 1) ∧ (own_R2 f0 f1 pp qq cc0 cc1 rc1 rc2 rs2) ∧ ∀ target, Steps p.tables e below (T'.setTop (mkF m 133 #[.val (.int p1), .val (.int p2), .val (.int p3), .val (.int p4), .val (.int p5), .val (.int f0), .val (.int f1), .val (.int pp), .val (.int qq), .val (.int cc0), .val (.int cc1), .val (.int bx), .val (.int by'), .val (.ref b6_8), .val (.ref b8_8), .unset, .unset, .unset] [])) target → Steps p.tables e below (TA.setTop (mkF m 114 #[.val (.int p1), .val (.int p2), .val (.int p3), .val (.int p4), .val (.int p5), .val (.int f0), .val (.int f1), .val (.int pp), .val (.int qq), .val (.int cc0), .val (.int cc1), .val (.int bx), .val (.int by'), .val (.ref b6_8), .val (.ref b8_8), .unset, .unset, .unset] [])) target := by
    rcases RA with ⟨hf0, rfl, rfl⟩ | ⟨hf0, rfl, rfl⟩
    · by_cases hf : f1 = (0 : Int32)
      · have hc116_11 : f1 = (0 : Int32) := hf
        obtain ⟨cq6_11, kq6_11, q6a_11, q6b_11, q6c_11⟩ := isOf hZ eA SA.1
        obtain ⟨_, _, ⟨T6_11, L6_11, k6_11, n6_11⟩, -, X6_11, ⟨Lc6_11, hQ6_11, l6_11, y6_11, z6_11⟩, st6_11⟩ := XA.virtualBack hx (y := (⟨"com/example/tilecairn/tilecairn/zonal/CoveredBlocks$Builder", "endRow", "()V"⟩ : MethodName)) (z := (⟨"com/example/tilecairn/tilecairn/zonal/CoveredBlocks$Builder", "endRow", "()V"⟩ : MethodName)) hown (mvT hZ (hw _ (List.mem_of_getElem? (i := 52) rfl))) (mvT hZ (hw _ (List.mem_of_getElem? (i := 53) rfl))) (notFace_of_selects (args := #[]) (mvT hZ (hw _ (List.mem_of_getElem? (i := 55) rfl)))) (mvT hZ (hw _ (List.mem_of_getElem? (i := 55) rfl))) (mvT hZ (hw _ (List.mem_of_getElem? (i := 54) rfl))) (by decide) (backOf (W := 0) (rm7 l Z a0 hw [] b8_8 b6_8 ru sa on ow 0 1 [.int 0, .int 0, .int 0, .int 0, .int 0, .int 0] [.int 0, .int 0, .int 0, .int 0] 0 hA n0 ZA SA rfl (by decide) hch gl) hZ (hw _ (List.mem_of_getElem? (i := 56) rfl)) (hw _ (List.mem_of_getElem? (i := 27) rfl)) (by decide) (by decide)) q6a_11 q6c_11 (g := (mkF m 130 #[.val (.int p1), .val (.int p2), .val (.int p3), .val (.int p4), .val (.int p5), .val (.int f0), .val (.int f1), .val (.int pp), .val (.int qq), .val (.int cc0), .val (.int cc1), .val (.int bx), .val (.int by'), .val (.ref b6_8), .val (.ref b8_8), .unset, .unset, .unset] [(.ref b8_8)])) rfl (by rw [hml]; rfl) (Steps.refl _) (argsL := []) (rest := []) (lenOf pd_0 rfl) rfl (by show 2 * 0 + _ ≤ _; exact Nat.le_of_eq rfl) (hb hby at_130) (fun _ _ => ⟨rfl, eA, (by decide : 0 + 2 + 4 + 0 ≤ _), (by decide : 0 + 12 + 200 + 0 ≤ _)⟩)
        dsimp only [Pt.U, Pt.locs, Pt.cells, Pt.slots] at X6_11 l6_11 y6_11 z6_11 st6_11 hQ6_11
        subst l6_11 y6_11 z6_11
        obtain ⟨rfl, N6q_11, Zn_11, Sn_11⟩ := hQ6_11
        have N6_11 := Fr.app NA N6q_11
        have st_11p : ∀ target, Steps p.tables e below (T6_11.setTop (mkF m 133 #[.val (.int p1), .val (.int p2), .val (.int p3), .val (.int p4), .val (.int p5), .val (.int f0), .val (.int f1), .val (.int pp), .val (.int qq), .val (.int cc0), .val (.int cc1), .val (.int bx), .val (.int by'), .val (.ref b6_8), .val (.ref b8_8), .unset, .unset, .unset] [])) target → Steps p.tables e below (TA.setTop (mkF m 114 #[.val (.int p1), .val (.int p2), .val (.int p3), .val (.int p4), .val (.int p5), .val (.int f0), .val (.int f1), .val (.int pp), .val (.int qq), .val (.int cc0), .val (.int cc1), .val (.int bx), .val (.int by'), .val (.ref b6_8), .val (.ref b8_8), .unset, .unset, .unset] [])) target := by
          intro target kt
          show Steps p.tables e below (TA.setTop (mkF m 114 #[.val (.int p1), .val (.int p2), .val (.int p3), .val (.int p4), .val (.int p5), .val (.int f0), .val (.int f1), .val (.int pp), .val (.int qq), .val (.int cc0), .val (.int cc1), .val (.int bx), .val (.int by'), .val (.ref b6_8), .val (.ref b8_8), .unset, .unset, .unset] [])) _
          refine XS.iload XA.here hx rfl (hb hby at_114) rfl ?_
          show Steps p.tables e below (TA.setTop (mkF m 116 #[.val (.int p1), .val (.int p2), .val (.int p3), .val (.int p4), .val (.int p5), .val (.int f0), .val (.int f1), .val (.int pp), .val (.int qq), .val (.int cc0), .val (.int cc1), .val (.int bx), .val (.int by'), .val (.ref b6_8), .val (.ref b8_8), .unset, .unset, .unset] [(.int f1)])) _
          refine XS.ifYes XA.here hx rfl (pc0 := 116) (pc' := 128) rfl (hb hby at_116) rfl ((if0 _ _).trans (teq hc116_11).1) (by decide) (by decide) ?_
          show Steps p.tables e below (TA.setTop (mkF m 128 #[.val (.int p1), .val (.int p2), .val (.int p3), .val (.int p4), .val (.int p5), .val (.int f0), .val (.int f1), .val (.int pp), .val (.int qq), .val (.int cc0), .val (.int cc1), .val (.int bx), .val (.int by'), .val (.ref b6_8), .val (.ref b8_8), .unset, .unset, .unset] [])) _
          refine XS.aload XA.here hx rfl (hb hby at_128) rfl rfl ?_
          show Steps p.tables e below (TA.setTop (mkF m 130 #[.val (.int p1), .val (.int p2), .val (.int p3), .val (.int p4), .val (.int p5), .val (.int f0), .val (.int f1), .val (.int pp), .val (.int qq), .val (.int cc0), .val (.int cc1), .val (.int bx), .val (.int by'), .val (.ref b6_8), .val (.ref b8_8), .unset, .unset, .unset] [(.ref b8_8)])) _
          refine st6_11.trans ?_
          exact kt
        exact ⟨_, _, _, 0, [.int 0, .int 0, .int 0, .int 0, .int 0, .int 0], X6_11, rfl, Zn_11, N6_11, own_Bc Sn_11 rfl (by decide) rfl (by rw [show ((1 : Int32) + (1 : Int32)).toNatClampNeg = 2 from by decide]; rfl) (by decide), Or.inl ⟨hf0, hf, rfl, rfl, rfl⟩, fun target kt => st_11p _ (kt)⟩
      · have hc116_12 : ¬ (f1 = (0 : Int32)) := hf
        obtain ⟨cq6_12, kq6_12, q6a_12, q6b_12, q6c_12⟩ := isOf hZ eA SA.1
        obtain ⟨_, _, ⟨T6_12, L6_12, k6_12, n6_12⟩, -, X6_12, ⟨Lc6_12, hQ6_12, l6_12, y6_12, z6_12⟩, st6_12⟩ := XA.virtualBack hx (y := (⟨"com/example/tilecairn/tilecairn/zonal/CoveredBlocks$Builder", "add", "(II)V"⟩ : MethodName)) (z := (⟨"com/example/tilecairn/tilecairn/zonal/CoveredBlocks$Builder", "add", "(II)V"⟩ : MethodName)) hown (mvT hZ (hw _ (List.mem_of_getElem? (i := 114) rfl))) (mvT hZ (hw _ (List.mem_of_getElem? (i := 115) rfl))) (notFace_of_selects (args := #[]) (mvT hZ (hw _ (List.mem_of_getElem? (i := 117) rfl)))) (mvT hZ (hw _ (List.mem_of_getElem? (i := 117) rfl))) (mvT hZ (hw _ (List.mem_of_getElem? (i := 116) rfl))) (by decide) (backOf (W := 0) (rm15 l Z a0 hw [] b8_8 qq cc1 b6_8 ru sa on ow 0 1 [.int 0, .int 0, .int 0, .int 0, .int 0, .int 0] [.int 0, .int 0, .int 0, .int 0] 0 hA n0 ZA SA rfl (Or.inl rfl) (own_pp hqq) (by decide) hch gl) hZ (hw _ (List.mem_of_getElem? (i := 118) rfl)) (hw _ (List.mem_of_getElem? (i := 27) rfl)) (by decide) (by decide)) q6a_12 q6c_12 (g := (mkF m 125 #[.val (.int p1), .val (.int p2), .val (.int p3), .val (.int p4), .val (.int p5), .val (.int f0), .val (.int f1), .val (.int pp), .val (.int qq), .val (.int cc0), .val (.int cc1), .val (.int bx), .val (.int by'), .val (.ref b6_8), .val (.ref b8_8), .unset, .unset, .unset] [(.int cc1), (.int qq), (.ref b8_8)])) rfl (by rw [hml]; rfl) (Steps.refl _) (argsL := [(.int qq), (.int cc1)]) (rest := []) (lenOf pd_13 rfl) rfl (by show 2 * 0 + _ ≤ _; exact Nat.le_of_eq rfl) (hb hby at_125) (fun _ _ => ⟨rfl, eA, (by decide : 0 + 2 + 4 + 0 ≤ _), (by decide : 0 + 12 + 200 + 0 ≤ _)⟩)
        dsimp only [Pt.U, Pt.locs, Pt.cells, Pt.slots] at X6_12 l6_12 y6_12 z6_12 st6_12 hQ6_12
        subst l6_12 y6_12 z6_12
        obtain ⟨rfl, N6q_12, Za_12, Sa_12⟩ := hQ6_12
        have N6_12 := Fr.app NA N6q_12
        obtain ⟨cq7_12, kq7_12, q7a_12, q7b_12, q7c_12⟩ := isOf hZ rfl Sa_12.1
        obtain ⟨_, _, ⟨T7_12, L7_12, k7_12, n7_12⟩, -, X7_12, ⟨Lc7_12, hQ7_12, l7_12, y7_12, z7_12⟩, st7_12⟩ := X6_12.virtualBack hx (y := (⟨"com/example/tilecairn/tilecairn/zonal/CoveredBlocks$Builder", "endRow", "()V"⟩ : MethodName)) (z := (⟨"com/example/tilecairn/tilecairn/zonal/CoveredBlocks$Builder", "endRow", "()V"⟩ : MethodName)) hown (mvT hZ (hw _ (List.mem_of_getElem? (i := 52) rfl))) (mvT hZ (hw _ (List.mem_of_getElem? (i := 53) rfl))) (notFace_of_selects (args := #[]) (mvT hZ (hw _ (List.mem_of_getElem? (i := 55) rfl)))) (mvT hZ (hw _ (List.mem_of_getElem? (i := 55) rfl))) (mvT hZ (hw _ (List.mem_of_getElem? (i := 54) rfl))) (by decide) (backOf (W := 0) (rm7 l Z a0 hw [] b8_8 b6_8 ru sa on ow (0 + (1 : Int32)) 1 (own_put [.int 0, .int 0, .int 0, .int 0, .int 0, .int 0] 0 cc1 qq) [.int 0, .int 0, .int 0, .int 0] (1 : Int32).toInt T6_12.heap n0 Za_12 Sa_12 rfl (by decide) hch gl) hZ (hw _ (List.mem_of_getElem? (i := 56) rfl)) (hw _ (List.mem_of_getElem? (i := 27) rfl)) (by decide) (by decide)) q7a_12 q7c_12 (g := (mkF m 130 #[.val (.int p1), .val (.int p2), .val (.int p3), .val (.int p4), .val (.int p5), .val (.int f0), .val (.int f1), .val (.int pp), .val (.int qq), .val (.int cc0), .val (.int cc1), .val (.int bx), .val (.int by'), .val (.ref b6_8), .val (.ref b8_8), .unset, .unset, .unset] [(.ref b8_8)])) rfl (by rw [hml]; rfl) (Steps.refl _) (argsL := []) (rest := []) (lenOf pd_0 rfl) rfl (by show 2 * 0 + _ ≤ _; exact Nat.le_of_eq rfl) (hb hby at_130) (fun _ _ => ⟨rfl, rfl, (by decide : 0 + 2 + 4 + 0 ≤ _), (by decide : 0 + 12 + 200 + 0 ≤ _)⟩)
        dsimp only [Pt.U, Pt.locs, Pt.cells, Pt.slots] at X7_12 l7_12 y7_12 z7_12 st7_12 hQ7_12
        subst l7_12 y7_12 z7_12
        obtain ⟨rfl, N7q_12, Zn_12, Sn_12⟩ := hQ7_12
        have N7_12 := Fr.app N6_12 N7q_12
        have st_12p : ∀ target, Steps p.tables e below (T7_12.setTop (mkF m 133 #[.val (.int p1), .val (.int p2), .val (.int p3), .val (.int p4), .val (.int p5), .val (.int f0), .val (.int f1), .val (.int pp), .val (.int qq), .val (.int cc0), .val (.int cc1), .val (.int bx), .val (.int by'), .val (.ref b6_8), .val (.ref b8_8), .unset, .unset, .unset] [])) target → Steps p.tables e below (TA.setTop (mkF m 114 #[.val (.int p1), .val (.int p2), .val (.int p3), .val (.int p4), .val (.int p5), .val (.int f0), .val (.int f1), .val (.int pp), .val (.int qq), .val (.int cc0), .val (.int cc1), .val (.int bx), .val (.int by'), .val (.ref b6_8), .val (.ref b8_8), .unset, .unset, .unset] [])) target := by
          intro target kt
          show Steps p.tables e below (TA.setTop (mkF m 114 #[.val (.int p1), .val (.int p2), .val (.int p3), .val (.int p4), .val (.int p5), .val (.int f0), .val (.int f1), .val (.int pp), .val (.int qq), .val (.int cc0), .val (.int cc1), .val (.int bx), .val (.int by'), .val (.ref b6_8), .val (.ref b8_8), .unset, .unset, .unset] [])) _
          refine XS.iload XA.here hx rfl (hb hby at_114) rfl ?_
          show Steps p.tables e below (TA.setTop (mkF m 116 #[.val (.int p1), .val (.int p2), .val (.int p3), .val (.int p4), .val (.int p5), .val (.int f0), .val (.int f1), .val (.int pp), .val (.int qq), .val (.int cc0), .val (.int cc1), .val (.int bx), .val (.int by'), .val (.ref b6_8), .val (.ref b8_8), .unset, .unset, .unset] [(.int f1)])) _
          refine XS.ifNo XA.here hx rfl (hb hby at_116) rfl ((if0 _ _).trans (feq hc116_12).1) ?_
          show Steps p.tables e below (TA.setTop (mkF m 119 #[.val (.int p1), .val (.int p2), .val (.int p3), .val (.int p4), .val (.int p5), .val (.int f0), .val (.int f1), .val (.int pp), .val (.int qq), .val (.int cc0), .val (.int cc1), .val (.int bx), .val (.int by'), .val (.ref b6_8), .val (.ref b8_8), .unset, .unset, .unset] [])) _
          refine XS.aload XA.here hx rfl (hb hby at_119) rfl rfl ?_
          show Steps p.tables e below (TA.setTop (mkF m 121 #[.val (.int p1), .val (.int p2), .val (.int p3), .val (.int p4), .val (.int p5), .val (.int f0), .val (.int f1), .val (.int pp), .val (.int qq), .val (.int cc0), .val (.int cc1), .val (.int bx), .val (.int by'), .val (.ref b6_8), .val (.ref b8_8), .unset, .unset, .unset] [(.ref b8_8)])) _
          refine XS.iload XA.here hx rfl (hb hby at_121) rfl ?_
          show Steps p.tables e below (TA.setTop (mkF m 123 #[.val (.int p1), .val (.int p2), .val (.int p3), .val (.int p4), .val (.int p5), .val (.int f0), .val (.int f1), .val (.int pp), .val (.int qq), .val (.int cc0), .val (.int cc1), .val (.int bx), .val (.int by'), .val (.ref b6_8), .val (.ref b8_8), .unset, .unset, .unset] [(.int qq), (.ref b8_8)])) _
          refine XS.iload XA.here hx rfl (hb hby at_123) rfl ?_
          show Steps p.tables e below (TA.setTop (mkF m 125 #[.val (.int p1), .val (.int p2), .val (.int p3), .val (.int p4), .val (.int p5), .val (.int f0), .val (.int f1), .val (.int pp), .val (.int qq), .val (.int cc0), .val (.int cc1), .val (.int bx), .val (.int by'), .val (.ref b6_8), .val (.ref b8_8), .unset, .unset, .unset] [(.int cc1), (.int qq), (.ref b8_8)])) _
          refine st6_12.trans ?_
          show Steps p.tables e below (T6_12.setTop (mkF m 128 #[.val (.int p1), .val (.int p2), .val (.int p3), .val (.int p4), .val (.int p5), .val (.int f0), .val (.int f1), .val (.int pp), .val (.int qq), .val (.int cc0), .val (.int cc1), .val (.int bx), .val (.int by'), .val (.ref b6_8), .val (.ref b8_8), .unset, .unset, .unset] [])) _
          refine XS.aload X6_12.here hx rfl (hb hby at_128) rfl rfl ?_
          show Steps p.tables e below (T6_12.setTop (mkF m 130 #[.val (.int p1), .val (.int p2), .val (.int p3), .val (.int p4), .val (.int p5), .val (.int f0), .val (.int f1), .val (.int pp), .val (.int qq), .val (.int cc0), .val (.int cc1), .val (.int bx), .val (.int by'), .val (.ref b6_8), .val (.ref b8_8), .unset, .unset, .unset] [(.ref b8_8)])) _
          refine st7_12.trans ?_
          exact kt
        exact ⟨_, _, _, 1, [.int cc1, .int (cc1 + (1 : Int32)), .int qq, .int 0, .int 0, .int 0], X7_12, rfl, Zn_12, N7_12, own_Bc Sn_12 (by decide) (by decide) (own_put0 _ _ _ _ _ _ _ _) (by rw [show ((1 : Int32) + (1 : Int32)).toNatClampNeg = 2 from by decide]; rfl) (by decide), Or.inr (Or.inr (Or.inl ⟨hf0, hf, rfl, rfl, rfl⟩)), fun target kt => st_12p _ (kt)⟩
    · by_cases hf : f1 = (0 : Int32)
      · have hc116_13 : f1 = (0 : Int32) := hf
        obtain ⟨cq6_13, kq6_13, q6a_13, q6b_13, q6c_13⟩ := isOf hZ eA SA.1
        obtain ⟨_, _, ⟨T6_13, L6_13, k6_13, n6_13⟩, -, X6_13, ⟨Lc6_13, hQ6_13, l6_13, y6_13, z6_13⟩, st6_13⟩ := XA.virtualBack hx (y := (⟨"com/example/tilecairn/tilecairn/zonal/CoveredBlocks$Builder", "endRow", "()V"⟩ : MethodName)) (z := (⟨"com/example/tilecairn/tilecairn/zonal/CoveredBlocks$Builder", "endRow", "()V"⟩ : MethodName)) hown (mvT hZ (hw _ (List.mem_of_getElem? (i := 52) rfl))) (mvT hZ (hw _ (List.mem_of_getElem? (i := 53) rfl))) (notFace_of_selects (args := #[]) (mvT hZ (hw _ (List.mem_of_getElem? (i := 55) rfl)))) (mvT hZ (hw _ (List.mem_of_getElem? (i := 55) rfl))) (mvT hZ (hw _ (List.mem_of_getElem? (i := 54) rfl))) (by decide) (backOf (W := 0) (rm7 l Z a0 hw [] b8_8 b6_8 ru sa on ow 1 1 [.int cc0, .int (cc0 + (1 : Int32)), .int pp, .int 0, .int 0, .int 0] [.int 0, .int 1, .int 0, .int 0] 0 hA n0 ZA SA rfl (by decide) hch gl) hZ (hw _ (List.mem_of_getElem? (i := 56) rfl)) (hw _ (List.mem_of_getElem? (i := 27) rfl)) (by decide) (by decide)) q6a_13 q6c_13 (g := (mkF m 130 #[.val (.int p1), .val (.int p2), .val (.int p3), .val (.int p4), .val (.int p5), .val (.int f0), .val (.int f1), .val (.int pp), .val (.int qq), .val (.int cc0), .val (.int cc1), .val (.int bx), .val (.int by'), .val (.ref b6_8), .val (.ref b8_8), .unset, .unset, .unset] [(.ref b8_8)])) rfl (by rw [hml]; rfl) (Steps.refl _) (argsL := []) (rest := []) (lenOf pd_0 rfl) rfl (by show 2 * 0 + _ ≤ _; exact Nat.le_of_eq rfl) (hb hby at_130) (fun _ _ => ⟨rfl, eA, (by decide : 0 + 2 + 4 + 0 ≤ _), (by decide : 0 + 12 + 200 + 0 ≤ _)⟩)
        dsimp only [Pt.U, Pt.locs, Pt.cells, Pt.slots] at X6_13 l6_13 y6_13 z6_13 st6_13 hQ6_13
        subst l6_13 y6_13 z6_13
        obtain ⟨rfl, N6q_13, Zn_13, Sn_13⟩ := hQ6_13
        have N6_13 := Fr.app NA N6q_13
        have st_13p : ∀ target, Steps p.tables e below (T6_13.setTop (mkF m 133 #[.val (.int p1), .val (.int p2), .val (.int p3), .val (.int p4), .val (.int p5), .val (.int f0), .val (.int f1), .val (.int pp), .val (.int qq), .val (.int cc0), .val (.int cc1), .val (.int bx), .val (.int by'), .val (.ref b6_8), .val (.ref b8_8), .unset, .unset, .unset] [])) target → Steps p.tables e below (TA.setTop (mkF m 114 #[.val (.int p1), .val (.int p2), .val (.int p3), .val (.int p4), .val (.int p5), .val (.int f0), .val (.int f1), .val (.int pp), .val (.int qq), .val (.int cc0), .val (.int cc1), .val (.int bx), .val (.int by'), .val (.ref b6_8), .val (.ref b8_8), .unset, .unset, .unset] [])) target := by
          intro target kt
          show Steps p.tables e below (TA.setTop (mkF m 114 #[.val (.int p1), .val (.int p2), .val (.int p3), .val (.int p4), .val (.int p5), .val (.int f0), .val (.int f1), .val (.int pp), .val (.int qq), .val (.int cc0), .val (.int cc1), .val (.int bx), .val (.int by'), .val (.ref b6_8), .val (.ref b8_8), .unset, .unset, .unset] [])) _
          refine XS.iload XA.here hx rfl (hb hby at_114) rfl ?_
          show Steps p.tables e below (TA.setTop (mkF m 116 #[.val (.int p1), .val (.int p2), .val (.int p3), .val (.int p4), .val (.int p5), .val (.int f0), .val (.int f1), .val (.int pp), .val (.int qq), .val (.int cc0), .val (.int cc1), .val (.int bx), .val (.int by'), .val (.ref b6_8), .val (.ref b8_8), .unset, .unset, .unset] [(.int f1)])) _
          refine XS.ifYes XA.here hx rfl (pc0 := 116) (pc' := 128) rfl (hb hby at_116) rfl ((if0 _ _).trans (teq hc116_13).1) (by decide) (by decide) ?_
          show Steps p.tables e below (TA.setTop (mkF m 128 #[.val (.int p1), .val (.int p2), .val (.int p3), .val (.int p4), .val (.int p5), .val (.int f0), .val (.int f1), .val (.int pp), .val (.int qq), .val (.int cc0), .val (.int cc1), .val (.int bx), .val (.int by'), .val (.ref b6_8), .val (.ref b8_8), .unset, .unset, .unset] [])) _
          refine XS.aload XA.here hx rfl (hb hby at_128) rfl rfl ?_
          show Steps p.tables e below (TA.setTop (mkF m 130 #[.val (.int p1), .val (.int p2), .val (.int p3), .val (.int p4), .val (.int p5), .val (.int f0), .val (.int f1), .val (.int pp), .val (.int qq), .val (.int cc0), .val (.int cc1), .val (.int bx), .val (.int by'), .val (.ref b6_8), .val (.ref b8_8), .unset, .unset, .unset] [(.ref b8_8)])) _
          refine st6_13.trans ?_
          exact kt
        exact ⟨_, _, _, 1, [.int cc0, .int (cc0 + (1 : Int32)), .int pp, .int 0, .int 0, .int 0], X6_13, rfl, Zn_13, N6_13, own_Bc Sn_13 rfl (by decide) rfl (by rw [show ((1 : Int32) + (1 : Int32)).toNatClampNeg = 2 from by decide]; rfl) (by decide), Or.inr (Or.inl ⟨hf0, hf, rfl, rfl, rfl⟩), fun target kt => st_13p _ (kt)⟩
      · have hc116_14 : ¬ (f1 = (0 : Int32)) := hf
        obtain ⟨cq6_14, kq6_14, q6a_14, q6b_14, q6c_14⟩ := isOf hZ eA SA.1
        obtain ⟨_, _, ⟨T6_14, L6_14, k6_14, n6_14⟩, -, X6_14, ⟨Lc6_14, hQ6_14, l6_14, y6_14, z6_14⟩, st6_14⟩ := XA.virtualBack hx (y := (⟨"com/example/tilecairn/tilecairn/zonal/CoveredBlocks$Builder", "add", "(II)V"⟩ : MethodName)) (z := (⟨"com/example/tilecairn/tilecairn/zonal/CoveredBlocks$Builder", "add", "(II)V"⟩ : MethodName)) hown (mvT hZ (hw _ (List.mem_of_getElem? (i := 114) rfl))) (mvT hZ (hw _ (List.mem_of_getElem? (i := 115) rfl))) (notFace_of_selects (args := #[]) (mvT hZ (hw _ (List.mem_of_getElem? (i := 117) rfl)))) (mvT hZ (hw _ (List.mem_of_getElem? (i := 117) rfl))) (mvT hZ (hw _ (List.mem_of_getElem? (i := 116) rfl))) (by decide) (backOf (W := 0) (rm15 l Z a0 hw [] b8_8 qq cc1 b6_8 ru sa on ow 1 1 [.int cc0, .int (cc0 + (1 : Int32)), .int pp, .int 0, .int 0, .int 0] [.int 0, .int 1, .int 0, .int 0] 0 hA n0 ZA SA rfl (Or.inr rfl) (own_pp hqq) (by decide) hch gl) hZ (hw _ (List.mem_of_getElem? (i := 118) rfl)) (hw _ (List.mem_of_getElem? (i := 27) rfl)) (by decide) (by decide)) q6a_14 q6c_14 (g := (mkF m 125 #[.val (.int p1), .val (.int p2), .val (.int p3), .val (.int p4), .val (.int p5), .val (.int f0), .val (.int f1), .val (.int pp), .val (.int qq), .val (.int cc0), .val (.int cc1), .val (.int bx), .val (.int by'), .val (.ref b6_8), .val (.ref b8_8), .unset, .unset, .unset] [(.int cc1), (.int qq), (.ref b8_8)])) rfl (by rw [hml]; rfl) (Steps.refl _) (argsL := [(.int qq), (.int cc1)]) (rest := []) (lenOf pd_13 rfl) rfl (by show 2 * 0 + _ ≤ _; exact Nat.le_of_eq rfl) (hb hby at_125) (fun _ _ => ⟨rfl, eA, (by decide : 0 + 2 + 4 + 0 ≤ _), (by decide : 0 + 12 + 200 + 0 ≤ _)⟩)
        dsimp only [Pt.U, Pt.locs, Pt.cells, Pt.slots] at X6_14 l6_14 y6_14 z6_14 st6_14 hQ6_14
        subst l6_14 y6_14 z6_14
        obtain ⟨rfl, N6q_14, Za_14, Sa_14⟩ := hQ6_14
        have N6_14 := Fr.app NA N6q_14
        obtain ⟨cq7_14, kq7_14, q7a_14, q7b_14, q7c_14⟩ := isOf hZ rfl Sa_14.1
        obtain ⟨_, _, ⟨T7_14, L7_14, k7_14, n7_14⟩, -, X7_14, ⟨Lc7_14, hQ7_14, l7_14, y7_14, z7_14⟩, st7_14⟩ := X6_14.virtualBack hx (y := (⟨"com/example/tilecairn/tilecairn/zonal/CoveredBlocks$Builder", "endRow", "()V"⟩ : MethodName)) (z := (⟨"com/example/tilecairn/tilecairn/zonal/CoveredBlocks$Builder", "endRow", "()V"⟩ : MethodName)) hown (mvT hZ (hw _ (List.mem_of_getElem? (i := 52) rfl))) (mvT hZ (hw _ (List.mem_of_getElem? (i := 53) rfl))) (notFace_of_selects (args := #[]) (mvT hZ (hw _ (List.mem_of_getElem? (i := 55) rfl)))) (mvT hZ (hw _ (List.mem_of_getElem? (i := 55) rfl))) (mvT hZ (hw _ (List.mem_of_getElem? (i := 54) rfl))) (by decide) (backOf (W := 0) (rm7 l Z a0 hw [] b8_8 b6_8 ru sa on ow (1 + (1 : Int32)) 1 (own_put [.int cc0, .int (cc0 + (1 : Int32)), .int pp, .int 0, .int 0, .int 0] 1 cc1 qq) [.int 0, .int 1, .int 0, .int 0] (1 : Int32).toInt T6_14.heap n0 Za_14 Sa_14 rfl (by decide) hch gl) hZ (hw _ (List.mem_of_getElem? (i := 56) rfl)) (hw _ (List.mem_of_getElem? (i := 27) rfl)) (by decide) (by decide)) q7a_14 q7c_14 (g := (mkF m 130 #[.val (.int p1), .val (.int p2), .val (.int p3), .val (.int p4), .val (.int p5), .val (.int f0), .val (.int f1), .val (.int pp), .val (.int qq), .val (.int cc0), .val (.int cc1), .val (.int bx), .val (.int by'), .val (.ref b6_8), .val (.ref b8_8), .unset, .unset, .unset] [(.ref b8_8)])) rfl (by rw [hml]; rfl) (Steps.refl _) (argsL := []) (rest := []) (lenOf pd_0 rfl) rfl (by show 2 * 0 + _ ≤ _; exact Nat.le_of_eq rfl) (hb hby at_130) (fun _ _ => ⟨rfl, rfl, (by decide : 0 + 2 + 4 + 0 ≤ _), (by decide : 0 + 12 + 200 + 0 ≤ _)⟩)
        dsimp only [Pt.U, Pt.locs, Pt.cells, Pt.slots] at X7_14 l7_14 y7_14 z7_14 st7_14 hQ7_14
        subst l7_14 y7_14 z7_14
        obtain ⟨rfl, N7q_14, Zn_14, Sn_14⟩ := hQ7_14
        have N7_14 := Fr.app N6_14 N7q_14
        have st_14p : ∀ target, Steps p.tables e below (T7_14.setTop (mkF m 133 #[.val (.int p1), .val (.int p2), .val (.int p3), .val (.int p4), .val (.int p5), .val (.int f0), .val (.int f1), .val (.int pp), .val (.int qq), .val (.int cc0), .val (.int cc1), .val (.int bx), .val (.int by'), .val (.ref b6_8), .val (.ref b8_8), .unset, .unset, .unset] [])) target → Steps p.tables e below (TA.setTop (mkF m 114 #[.val (.int p1), .val (.int p2), .val (.int p3), .val (.int p4), .val (.int p5), .val (.int f0), .val (.int f1), .val (.int pp), .val (.int qq), .val (.int cc0), .val (.int cc1), .val (.int bx), .val (.int by'), .val (.ref b6_8), .val (.ref b8_8), .unset, .unset, .unset] [])) target := by
          intro target kt
          show Steps p.tables e below (TA.setTop (mkF m 114 #[.val (.int p1), .val (.int p2), .val (.int p3), .val (.int p4), .val (.int p5), .val (.int f0), .val (.int f1), .val (.int pp), .val (.int qq), .val (.int cc0), .val (.int cc1), .val (.int bx), .val (.int by'), .val (.ref b6_8), .val (.ref b8_8), .unset, .unset, .unset] [])) _
          refine XS.iload XA.here hx rfl (hb hby at_114) rfl ?_
          show Steps p.tables e below (TA.setTop (mkF m 116 #[.val (.int p1), .val (.int p2), .val (.int p3), .val (.int p4), .val (.int p5), .val (.int f0), .val (.int f1), .val (.int pp), .val (.int qq), .val (.int cc0), .val (.int cc1), .val (.int bx), .val (.int by'), .val (.ref b6_8), .val (.ref b8_8), .unset, .unset, .unset] [(.int f1)])) _
          refine XS.ifNo XA.here hx rfl (hb hby at_116) rfl ((if0 _ _).trans (feq hc116_14).1) ?_
          show Steps p.tables e below (TA.setTop (mkF m 119 #[.val (.int p1), .val (.int p2), .val (.int p3), .val (.int p4), .val (.int p5), .val (.int f0), .val (.int f1), .val (.int pp), .val (.int qq), .val (.int cc0), .val (.int cc1), .val (.int bx), .val (.int by'), .val (.ref b6_8), .val (.ref b8_8), .unset, .unset, .unset] [])) _
          refine XS.aload XA.here hx rfl (hb hby at_119) rfl rfl ?_
          show Steps p.tables e below (TA.setTop (mkF m 121 #[.val (.int p1), .val (.int p2), .val (.int p3), .val (.int p4), .val (.int p5), .val (.int f0), .val (.int f1), .val (.int pp), .val (.int qq), .val (.int cc0), .val (.int cc1), .val (.int bx), .val (.int by'), .val (.ref b6_8), .val (.ref b8_8), .unset, .unset, .unset] [(.ref b8_8)])) _
          refine XS.iload XA.here hx rfl (hb hby at_121) rfl ?_
          show Steps p.tables e below (TA.setTop (mkF m 123 #[.val (.int p1), .val (.int p2), .val (.int p3), .val (.int p4), .val (.int p5), .val (.int f0), .val (.int f1), .val (.int pp), .val (.int qq), .val (.int cc0), .val (.int cc1), .val (.int bx), .val (.int by'), .val (.ref b6_8), .val (.ref b8_8), .unset, .unset, .unset] [(.int qq), (.ref b8_8)])) _
          refine XS.iload XA.here hx rfl (hb hby at_123) rfl ?_
          show Steps p.tables e below (TA.setTop (mkF m 125 #[.val (.int p1), .val (.int p2), .val (.int p3), .val (.int p4), .val (.int p5), .val (.int f0), .val (.int f1), .val (.int pp), .val (.int qq), .val (.int cc0), .val (.int cc1), .val (.int bx), .val (.int by'), .val (.ref b6_8), .val (.ref b8_8), .unset, .unset, .unset] [(.int cc1), (.int qq), (.ref b8_8)])) _
          refine st6_14.trans ?_
          show Steps p.tables e below (T6_14.setTop (mkF m 128 #[.val (.int p1), .val (.int p2), .val (.int p3), .val (.int p4), .val (.int p5), .val (.int f0), .val (.int f1), .val (.int pp), .val (.int qq), .val (.int cc0), .val (.int cc1), .val (.int bx), .val (.int by'), .val (.ref b6_8), .val (.ref b8_8), .unset, .unset, .unset] [])) _
          refine XS.aload X6_14.here hx rfl (hb hby at_128) rfl rfl ?_
          show Steps p.tables e below (T6_14.setTop (mkF m 130 #[.val (.int p1), .val (.int p2), .val (.int p3), .val (.int p4), .val (.int p5), .val (.int f0), .val (.int f1), .val (.int pp), .val (.int qq), .val (.int cc0), .val (.int cc1), .val (.int bx), .val (.int by'), .val (.ref b6_8), .val (.ref b8_8), .unset, .unset, .unset] [(.ref b8_8)])) _
          refine st7_14.trans ?_
          exact kt
        exact ⟨_, _, _, 2, [.int cc0, .int (cc0 + (1 : Int32)), .int pp, .int cc1, .int (cc1 + (1 : Int32)), .int qq], X7_14, rfl, Zn_14, N7_14, own_Bc Sn_14 (by decide) (by decide) (own_put1 _ _ _ _ _ _ _ _) (by rw [show ((1 : Int32) + (1 : Int32)).toNatClampNeg = 2 from by decide]; rfl) (by decide), Or.inr (Or.inr (Or.inr ⟨hf0, hf, rfl, rfl, rfl⟩)), fun target kt => st_14p _ (kt)⟩
  have SD := SB
  obtain ⟨cq6_15, kq6_15, q6a_15, q6b_15, q6c_15⟩ := isOf hZ eB SD.1
  obtain ⟨_, _, ⟨T6_15, L6_15, k6_15, n6_15⟩, -, X6_15, ⟨Lc6_15, hQ6_15, l6_15, y6_15, z6_15⟩, st6_15⟩ := XB.virtualBack hx (y := (⟨"com/example/tilecairn/tilecairn/zonal/CoveredBlocks$Builder", "endRow", "()V"⟩ : MethodName)) (z := (⟨"com/example/tilecairn/tilecairn/zonal/CoveredBlocks$Builder", "endRow", "()V"⟩ : MethodName)) hown (mvT hZ (hw _ (List.mem_of_getElem? (i := 52) rfl))) (mvT hZ (hw _ (List.mem_of_getElem? (i := 53) rfl))) (notFace_of_selects (args := #[]) (mvT hZ (hw _ (List.mem_of_getElem? (i := 55) rfl)))) (mvT hZ (hw _ (List.mem_of_getElem? (i := 55) rfl))) (mvT hZ (hw _ (List.mem_of_getElem? (i := 54) rfl))) (by decide) (backOf (W := 0) (rm7 l Z a0 hw [] b8_8 b6_8 ru sa on ow rc2 2 rs2 [.int 0, .int rc1, .int rc2, .int 0] 1 hB n0 ZB SD rfl (by decide) hch gl) hZ (hw _ (List.mem_of_getElem? (i := 56) rfl)) (hw _ (List.mem_of_getElem? (i := 27) rfl)) (by decide) (by decide)) q6a_15 q6c_15 (g := (mkF m 135 #[.val (.int p1), .val (.int p2), .val (.int p3), .val (.int p4), .val (.int p5), .val (.int f0), .val (.int f1), .val (.int pp), .val (.int qq), .val (.int cc0), .val (.int cc1), .val (.int bx), .val (.int by'), .val (.ref b6_8), .val (.ref b8_8), .unset, .unset, .unset] [(.ref b8_8)])) rfl (by rw [hml]; rfl) (Steps.refl _) (argsL := []) (rest := []) (lenOf pd_0 rfl) rfl (by show 2 * 0 + _ ≤ _; exact Nat.le_of_eq rfl) (hb hby at_135) (fun _ _ => ⟨rfl, eB, (by decide : 0 + 2 + 4 + 0 ≤ _), (by decide : 0 + 12 + 200 + 0 ≤ _)⟩)
  dsimp only [Pt.U, Pt.locs, Pt.cells, Pt.slots] at X6_15 l6_15 y6_15 z6_15 st6_15 hQ6_15
  subst l6_15 y6_15 z6_15
  obtain ⟨rfl, N6q_15, Zn_15, Sn_15⟩ := hQ6_15
  have N6_15 := Fr.app NB N6q_15
  have st_15p : ∀ target, Steps p.tables e below (T6_15.setTop (mkF m 138 #[.val (.int p1), .val (.int p2), .val (.int p3), .val (.int p4), .val (.int p5), .val (.int f0), .val (.int f1), .val (.int pp), .val (.int qq), .val (.int cc0), .val (.int cc1), .val (.int bx), .val (.int by'), .val (.ref b6_8), .val (.ref b8_8), .unset, .unset, .unset] [])) target → Steps p.tables e below (TB.setTop (mkF m 133 #[.val (.int p1), .val (.int p2), .val (.int p3), .val (.int p4), .val (.int p5), .val (.int f0), .val (.int f1), .val (.int pp), .val (.int qq), .val (.int cc0), .val (.int cc1), .val (.int bx), .val (.int by'), .val (.ref b6_8), .val (.ref b8_8), .unset, .unset, .unset] [])) target := by
    intro target kt
    show Steps p.tables e below (TB.setTop (mkF m 133 #[.val (.int p1), .val (.int p2), .val (.int p3), .val (.int p4), .val (.int p5), .val (.int f0), .val (.int f1), .val (.int pp), .val (.int qq), .val (.int cc0), .val (.int cc1), .val (.int bx), .val (.int by'), .val (.ref b6_8), .val (.ref b8_8), .unset, .unset, .unset] [])) _
    refine XS.aload XB.here hx rfl (hb hby at_133) rfl rfl ?_
    show Steps p.tables e below (TB.setTop (mkF m 135 #[.val (.int p1), .val (.int p2), .val (.int p3), .val (.int p4), .val (.int p5), .val (.int f0), .val (.int f1), .val (.int pp), .val (.int qq), .val (.int cc0), .val (.int cc1), .val (.int bx), .val (.int by'), .val (.ref b6_8), .val (.ref b8_8), .unset, .unset, .unset] [(.ref b8_8)])) _
    refine st6_15.trans ?_
    exact kt
  have SE := own_Bc (rc' := rc2) (br' := 3) (rs' := rs2) (ss' := [.int 0, .int rc1, .int rc2, .int rc2]) (b' := 1) Sn_15 rfl (by decide) rfl (by rw [show ((2 : Int32) + (1 : Int32)).toNatClampNeg = 3 from by decide]; rfl) (by decide)
  obtain ⟨cq6_16, kq6_16, q6a_16, q6b_16, q6c_16⟩ := isOf hZ (rfl : T6_15.heap = _) SE.1
  obtain ⟨_, _, ⟨T6_16, L6_16, k6_16, n6_16⟩, -, X6_16, ⟨Lc6_16, hQ6_16, l6_16, y6_16, z6_16⟩, st6_16⟩ := X6_15.virtualBack hx (y := (⟨"com/example/tilecairn/tilecairn/zonal/CoveredBlocks$Builder", "build", "()Lcom/example/tilecairn/tilecairn/zonal/CoveredBlocks;"⟩ : MethodName)) (z := (⟨"com/example/tilecairn/tilecairn/zonal/CoveredBlocks$Builder", "build", "()Lcom/example/tilecairn/tilecairn/zonal/CoveredBlocks;"⟩ : MethodName)) hown (mvT hZ (hw _ (List.mem_of_getElem? (i := 61) rfl))) (mvT hZ (hw _ (List.mem_of_getElem? (i := 62) rfl))) (notFace_of_selects (args := #[]) (mvT hZ (hw _ (List.mem_of_getElem? (i := 64) rfl)))) (mvT hZ (hw _ (List.mem_of_getElem? (i := 64) rfl))) (mvT hZ (hw _ (List.mem_of_getElem? (i := 63) rfl))) (by decide) (backOf (W := 0) (rm8 l Z a0 hw [] b8_8 b6_8 ru sa on ow rc2 3 rs2 [.int 0, .int rc1, .int rc2, .int rc2] 1 T6_15.heap n0 Zn_15 SE (own_R2rc RB)) hZ (hw _ (List.mem_of_getElem? (i := 65) rfl)) (hw _ (List.mem_of_getElem? (i := 27) rfl)) (by decide) (by decide)) q6a_16 q6c_16 (g := (mkF m 140 #[.val (.int p1), .val (.int p2), .val (.int p3), .val (.int p4), .val (.int p5), .val (.int f0), .val (.int f1), .val (.int pp), .val (.int qq), .val (.int cc0), .val (.int cc1), .val (.int bx), .val (.int by'), .val (.ref b6_8), .val (.ref b8_8), .unset, .unset, .unset] [(.ref b8_8)])) rfl (by rw [hml]; rfl) (Steps.refl _) (argsL := []) (rest := []) (lenOf pd_10 rfl) rfl (by show 2 * 0 + _ ≤ _; exact Nat.le_of_eq rfl) (hb hby at_140) (fun _ _ => ⟨rfl, (rfl : T6_15.heap = _), (by decide : 0 + 2 + 4 + 2 ≤ _), (by decide : 0 + 12 + 200 + 9 ≤ _)⟩)
  dsimp only [Pt.U, Pt.locs, Pt.cells, Pt.slots] at X6_16 l6_16 y6_16 z6_16 st6_16 hQ6_16
  subst l6_16 y6_16 z6_16
  obtain ⟨rfl, N6q_16, ZC, rn, SC⟩ := hQ6_16
  have N6_16 := Fr.app N6_15 N6q_16
  have st_16p : ∀ target, Steps p.tables e below (T6_16.setTop (mkF m 145 #[.val (.int p1), .val (.int p2), .val (.int p3), .val (.int p4), .val (.int p5), .val (.int f0), .val (.int f1), .val (.int pp), .val (.int qq), .val (.int cc0), .val (.int cc1), .val (.int bx), .val (.int by'), .val (.ref b6_8), .val (.ref b8_8), .val (.ref T6_15.heap.size), .unset, .unset] [])) target → Steps p.tables e below (T6_15.setTop (mkF m 138 #[.val (.int p1), .val (.int p2), .val (.int p3), .val (.int p4), .val (.int p5), .val (.int f0), .val (.int f1), .val (.int pp), .val (.int qq), .val (.int cc0), .val (.int cc1), .val (.int bx), .val (.int by'), .val (.ref b6_8), .val (.ref b8_8), .unset, .unset, .unset] [])) target := by
    intro target kt
    show Steps p.tables e below (T6_15.setTop (mkF m 138 #[.val (.int p1), .val (.int p2), .val (.int p3), .val (.int p4), .val (.int p5), .val (.int f0), .val (.int f1), .val (.int pp), .val (.int qq), .val (.int cc0), .val (.int cc1), .val (.int bx), .val (.int by'), .val (.ref b6_8), .val (.ref b8_8), .unset, .unset, .unset] [])) _
    refine XS.aload X6_15.here hx rfl (hb hby at_138) rfl rfl ?_
    show Steps p.tables e below (T6_15.setTop (mkF m 140 #[.val (.int p1), .val (.int p2), .val (.int p3), .val (.int p4), .val (.int p5), .val (.int f0), .val (.int f1), .val (.int pp), .val (.int qq), .val (.int cc0), .val (.int cc1), .val (.int bx), .val (.int by'), .val (.ref b6_8), .val (.ref b8_8), .unset, .unset, .unset] [(.ref b8_8)])) _
    refine st6_16.trans ?_
    show Steps p.tables e below (T6_16.setTop (mkF m 143 #[.val (.int p1), .val (.int p2), .val (.int p3), .val (.int p4), .val (.int p5), .val (.int f0), .val (.int f1), .val (.int pp), .val (.int qq), .val (.int cc0), .val (.int cc1), .val (.int bx), .val (.int by'), .val (.ref b6_8), .val (.ref b8_8), .unset, .unset, .unset] [(.ref T6_15.heap.size)])) _
    refine XS.astore X6_16.here hx rfl (hb hby at_143) rfl rfl (l' := #[.val (.int p1), .val (.int p2), .val (.int p3), .val (.int p4), .val (.int p5), .val (.int f0), .val (.int f1), .val (.int pp), .val (.int qq), .val (.int cc0), .val (.int cc1), .val (.int bx), .val (.int by'), .val (.ref b6_8), .val (.ref b8_8), .val (.ref T6_15.heap.size), .unset, .unset]) rfl ?_
    exact kt
  obtain ⟨cb, ecb⟩ : ∃ z, z = T6_15.heap.size := ⟨_, rfl⟩
  rw [← ecb] at SC st_16p
  obtain ⟨sr, er, zz, vv, q1, q2, q3, q4, q5, q6⟩ := own_look RB hpp hqq hcc0 hcc1 (own_div bx (4 : Int32)) (own_rem bx (4 : Int32)) (own_div4 hbx.1 hbx.2)
  obtain ⟨sr', er', zz', vv', u1, u2, u3, u4, u5, u6⟩ := own_look RB hpp hqq hcc0 hcc1 (own_div by' (4 : Int32)) (own_rem by' (4 : Int32)) (own_div4 hby'.1 hby'.2)
  obtain ⟨cq6_17, kq6_17, q6a_17, q6b_17, q6c_17⟩ := isOf hZ (rfl : T6_16.heap = _) SC.1
  obtain ⟨_, _, ⟨T6_17, L6_17, k6_17, n6_17⟩, -, X6_17, ⟨Lc6_17, hQ6_17, l6_17, y6_17, z6_17⟩, st6_17⟩ := X6_16.virtualBack hx (y := (⟨"com/example/tilecairn/tilecairn/zonal/CoveredBlocks", "polygons", "(I)[I"⟩ : MethodName)) (z := (⟨"com/example/tilecairn/tilecairn/zonal/CoveredBlocks", "polygons", "(I)[I"⟩ : MethodName)) hown (mvT hZ (hw _ (List.mem_of_getElem? (i := 90) rfl))) (mvT hZ (hw _ (List.mem_of_getElem? (i := 91) rfl))) (notFace_of_selects (args := #[]) (mvT hZ (hw _ (List.mem_of_getElem? (i := 93) rfl)))) (mvT hZ (hw _ (List.mem_of_getElem? (i := 93) rfl))) (mvT hZ (hw _ (List.mem_of_getElem? (i := 92) rfl))) (by decide) (backOf (W := 0) (rm12 l Z a0 hw [] cb bx b6_8 sa rn ((3 : Int32) * rc2) sr er zz (own_fst rs2 ((3 : Int32) * rc2).toNatClampNeg) [.int 0, .int rc1, .int rc2, .int rc2] vv T6_16.heap n0 ZC SC q1 q2 q3 q4) hZ (hw _ (List.mem_of_getElem? (i := 94) rfl)) (hw _ (List.mem_of_getElem? (i := 68) rfl)) (by decide) (by decide)) q6a_17 q6c_17 (g := (mkF m 149 #[.val (.int p1), .val (.int p2), .val (.int p3), .val (.int p4), .val (.int p5), .val (.int f0), .val (.int f1), .val (.int pp), .val (.int qq), .val (.int cc0), .val (.int cc1), .val (.int bx), .val (.int by'), .val (.ref b6_8), .val (.ref b8_8), .val (.ref cb), .unset, .unset] [(.int bx), (.ref cb)])) rfl (by rw [hml]; rfl) (Steps.refl _) (argsL := [(.int bx)]) (rest := []) (lenOf pd_11 rfl) rfl (by show 2 * 0 + _ ≤ _; exact Nat.le_of_eq rfl) (hb hby at_149) (fun _ _ => ⟨rfl, (rfl : T6_16.heap = _), (by decide : 0 + 2 + 4 + 2 + 2 ≤ _), (by decide : 0 + 12 + 200 + 9 + 7 ≤ _)⟩)
  dsimp only [Pt.U, Pt.locs, Pt.cells, Pt.slots] at X6_17 l6_17 y6_17 z6_17 st6_17 hQ6_17
  subst l6_17 y6_17 z6_17
  obtain ⟨bgx, kgx, rfl, N6q_17, Kgx, Vgx⟩ := hQ6_17
  have N6_17 := Fr.app N6_16 N6q_17
  have st_17p : ∀ target, Steps p.tables e below (T6_17.setTop (mkF m 154 #[.val (.int p1), .val (.int p2), .val (.int p3), .val (.int p4), .val (.int p5), .val (.int f0), .val (.int f1), .val (.int pp), .val (.int qq), .val (.int cc0), .val (.int cc1), .val (.int bx), .val (.int by'), .val (.ref b6_8), .val (.ref b8_8), .val (.ref cb), .val (.ref bgx), .unset] [])) target → Steps p.tables e below (T6_16.setTop (mkF m 145 #[.val (.int p1), .val (.int p2), .val (.int p3), .val (.int p4), .val (.int p5), .val (.int f0), .val (.int f1), .val (.int pp), .val (.int qq), .val (.int cc0), .val (.int cc1), .val (.int bx), .val (.int by'), .val (.ref b6_8), .val (.ref b8_8), .val (.ref cb), .unset, .unset] [])) target := by
    intro target kt
    show Steps p.tables e below (T6_16.setTop (mkF m 145 #[.val (.int p1), .val (.int p2), .val (.int p3), .val (.int p4), .val (.int p5), .val (.int f0), .val (.int f1), .val (.int pp), .val (.int qq), .val (.int cc0), .val (.int cc1), .val (.int bx), .val (.int by'), .val (.ref b6_8), .val (.ref b8_8), .val (.ref cb), .unset, .unset] [])) _
    refine XS.aload X6_16.here hx rfl (hb hby at_145) rfl rfl ?_
    show Steps p.tables e below (T6_16.setTop (mkF m 147 #[.val (.int p1), .val (.int p2), .val (.int p3), .val (.int p4), .val (.int p5), .val (.int f0), .val (.int f1), .val (.int pp), .val (.int qq), .val (.int cc0), .val (.int cc1), .val (.int bx), .val (.int by'), .val (.ref b6_8), .val (.ref b8_8), .val (.ref cb), .unset, .unset] [(.ref cb)])) _
    refine XS.iload X6_16.here hx rfl (hb hby at_147) rfl ?_
    show Steps p.tables e below (T6_16.setTop (mkF m 149 #[.val (.int p1), .val (.int p2), .val (.int p3), .val (.int p4), .val (.int p5), .val (.int f0), .val (.int f1), .val (.int pp), .val (.int qq), .val (.int cc0), .val (.int cc1), .val (.int bx), .val (.int by'), .val (.ref b6_8), .val (.ref b8_8), .val (.ref cb), .unset, .unset] [(.int bx), (.ref cb)])) _
    refine st6_17.trans ?_
    show Steps p.tables e below (T6_17.setTop (mkF m 152 #[.val (.int p1), .val (.int p2), .val (.int p3), .val (.int p4), .val (.int p5), .val (.int f0), .val (.int f1), .val (.int pp), .val (.int qq), .val (.int cc0), .val (.int cc1), .val (.int bx), .val (.int by'), .val (.ref b6_8), .val (.ref b8_8), .val (.ref cb), .unset, .unset] [(.ref bgx)])) _
    refine XS.astore X6_17.here hx rfl (hb hby at_152) rfl rfl (l' := #[.val (.int p1), .val (.int p2), .val (.int p3), .val (.int p4), .val (.int p5), .val (.int f0), .val (.int f1), .val (.int pp), .val (.int qq), .val (.int cc0), .val (.int cc1), .val (.int bx), .val (.int by'), .val (.ref b6_8), .val (.ref b8_8), .val (.ref cb), .val (.ref bgx), .unset]) rfl ?_
    exact kt
  have SC2 := own_Ck SC Kgx
  have ZG : n0 ≤ T6_17.heap.size := Nat.le_trans ZC Kgx.1
  obtain ⟨cq6_18, kq6_18, q6a_18, q6b_18, q6c_18⟩ := isOf hZ (rfl : T6_17.heap = _) SC2.1
  obtain ⟨_, _, ⟨T6_18, L6_18, k6_18, n6_18⟩, -, X6_18, ⟨Lc6_18, hQ6_18, l6_18, y6_18, z6_18⟩, st6_18⟩ := X6_17.virtualBack hx (y := (⟨"com/example/tilecairn/tilecairn/zonal/CoveredBlocks", "polygons", "(I)[I"⟩ : MethodName)) (z := (⟨"com/example/tilecairn/tilecairn/zonal/CoveredBlocks", "polygons", "(I)[I"⟩ : MethodName)) hown (mvT hZ (hw _ (List.mem_of_getElem? (i := 90) rfl))) (mvT hZ (hw _ (List.mem_of_getElem? (i := 91) rfl))) (notFace_of_selects (args := #[]) (mvT hZ (hw _ (List.mem_of_getElem? (i := 93) rfl)))) (mvT hZ (hw _ (List.mem_of_getElem? (i := 93) rfl))) (mvT hZ (hw _ (List.mem_of_getElem? (i := 92) rfl))) (by decide) (backOf (W := 0) (rm12 l Z a0 hw [] cb by' b6_8 sa rn ((3 : Int32) * rc2) sr' er' zz' (own_fst rs2 ((3 : Int32) * rc2).toNatClampNeg) [.int 0, .int rc1, .int rc2, .int rc2] vv' T6_17.heap n0 ZG SC2 u1 u2 u3 u4) hZ (hw _ (List.mem_of_getElem? (i := 94) rfl)) (hw _ (List.mem_of_getElem? (i := 68) rfl)) (by decide) (by decide)) q6a_18 q6c_18 (g := (mkF m 158 #[.val (.int p1), .val (.int p2), .val (.int p3), .val (.int p4), .val (.int p5), .val (.int f0), .val (.int f1), .val (.int pp), .val (.int qq), .val (.int cc0), .val (.int cc1), .val (.int bx), .val (.int by'), .val (.ref b6_8), .val (.ref b8_8), .val (.ref cb), .val (.ref bgx), .unset] [(.int by'), (.ref cb)])) rfl (by rw [hml]; rfl) (Steps.refl _) (argsL := [(.int by')]) (rest := []) (lenOf pd_11 rfl) rfl (by show 2 * 0 + _ ≤ _; exact Nat.le_of_eq rfl) (hb hby at_158) (fun _ _ => ⟨rfl, (rfl : T6_17.heap = _), (by decide : 0 + 2 + 4 + 2 + 2 + 2 ≤ _), (by decide : 0 + 12 + 200 + 9 + 7 + 7 ≤ _)⟩)
  dsimp only [Pt.U, Pt.locs, Pt.cells, Pt.slots] at X6_18 l6_18 y6_18 z6_18 st6_18 hQ6_18
  subst l6_18 y6_18 z6_18
  obtain ⟨bgy, kgy, rfl, N6q_18, Kgy, Vgy⟩ := hQ6_18
  have N6_18 := Fr.app N6_17 N6q_18
  have st_18p : ∀ target, Steps p.tables e below (T6_18.setTop (mkF m 163 #[.val (.int p1), .val (.int p2), .val (.int p3), .val (.int p4), .val (.int p5), .val (.int f0), .val (.int f1), .val (.int pp), .val (.int qq), .val (.int cc0), .val (.int cc1), .val (.int bx), .val (.int by'), .val (.ref b6_8), .val (.ref b8_8), .val (.ref cb), .val (.ref bgx), .val (.ref bgy)] [])) target → Steps p.tables e below (T6_17.setTop (mkF m 154 #[.val (.int p1), .val (.int p2), .val (.int p3), .val (.int p4), .val (.int p5), .val (.int f0), .val (.int f1), .val (.int pp), .val (.int qq), .val (.int cc0), .val (.int cc1), .val (.int bx), .val (.int by'), .val (.ref b6_8), .val (.ref b8_8), .val (.ref cb), .val (.ref bgx), .unset] [])) target := by
    intro target kt
    show Steps p.tables e below (T6_17.setTop (mkF m 154 #[.val (.int p1), .val (.int p2), .val (.int p3), .val (.int p4), .val (.int p5), .val (.int f0), .val (.int f1), .val (.int pp), .val (.int qq), .val (.int cc0), .val (.int cc1), .val (.int bx), .val (.int by'), .val (.ref b6_8), .val (.ref b8_8), .val (.ref cb), .val (.ref bgx), .unset] [])) _
    refine XS.aload X6_17.here hx rfl (hb hby at_154) rfl rfl ?_
    show Steps p.tables e below (T6_17.setTop (mkF m 156 #[.val (.int p1), .val (.int p2), .val (.int p3), .val (.int p4), .val (.int p5), .val (.int f0), .val (.int f1), .val (.int pp), .val (.int qq), .val (.int cc0), .val (.int cc1), .val (.int bx), .val (.int by'), .val (.ref b6_8), .val (.ref b8_8), .val (.ref cb), .val (.ref bgx), .unset] [(.ref cb)])) _
    refine XS.iload X6_17.here hx rfl (hb hby at_156) rfl ?_
    show Steps p.tables e below (T6_17.setTop (mkF m 158 #[.val (.int p1), .val (.int p2), .val (.int p3), .val (.int p4), .val (.int p5), .val (.int f0), .val (.int f1), .val (.int pp), .val (.int qq), .val (.int cc0), .val (.int cc1), .val (.int bx), .val (.int by'), .val (.ref b6_8), .val (.ref b8_8), .val (.ref cb), .val (.ref bgx), .unset] [(.int by'), (.ref cb)])) _
    refine st6_18.trans ?_
    show Steps p.tables e below (T6_18.setTop (mkF m 161 #[.val (.int p1), .val (.int p2), .val (.int p3), .val (.int p4), .val (.int p5), .val (.int f0), .val (.int f1), .val (.int pp), .val (.int qq), .val (.int cc0), .val (.int cc1), .val (.int bx), .val (.int by'), .val (.ref b6_8), .val (.ref b8_8), .val (.ref cb), .val (.ref bgx), .unset] [(.ref bgy)])) _
    refine XS.astore X6_18.here hx rfl (hb hby at_161) rfl rfl (l' := #[.val (.int p1), .val (.int p2), .val (.int p3), .val (.int p4), .val (.int p5), .val (.int f0), .val (.int f1), .val (.int pp), .val (.int qq), .val (.int cc0), .val (.int cc1), .val (.int bx), .val (.int by'), .val (.ref b6_8), .val (.ref b8_8), .val (.ref cb), .val (.ref bgx), .val (.ref bgy)]) rfl ?_
    exact kt
  have ZH : n0 ≤ T6_18.heap.size := Nat.le_trans ZG Kgy.1
  have Vgx2 := Vgx.keep Kgy nin0
  obtain ⟨_, _, ⟨T6_19, L6_19, k6_19, n6_19⟩, -, X6_19, ⟨Lc6_19, hQ6_19, l6_19, y6_19, z6_19⟩, st6_19⟩ := Jvm.LawKit.callS X6_18 hx (y := (⟨"com/example/tilecairn/tilecairn/zonal/BuilderEndRowPinLaw", "ok", "([IIZIIZII)Z"⟩ : MethodName)) hown (mvT hZ (hw _ (List.mem_of_getElem? (i := 110) rfl))) (mvT hZ (hw _ (List.mem_of_getElem? (i := 111) rfl))) (mvT hZ (hw _ (List.mem_of_getElem? (i := 112) rfl))) (mvT hZ (hw _ (List.mem_of_getElem? (i := 113) rfl))) (by decide) (backOf (W := 0) (rm14 l Z a0 hw [] bgx bx f0 pp cc0 f1 qq cc1 _ zz vv T6_18.heap n0 ZH Vgx2 q5 q6) hZ (hw _ (List.mem_of_getElem? (i := 113) rfl)) (hw _ (List.mem_of_getElem? (i := 112) rfl)) (by decide) (by decide)) (g := (mkF m 179 #[.val (.int p1), .val (.int p2), .val (.int p3), .val (.int p4), .val (.int p5), .val (.int f0), .val (.int f1), .val (.int pp), .val (.int qq), .val (.int cc0), .val (.int cc1), .val (.int bx), .val (.int by'), .val (.ref b6_8), .val (.ref b8_8), .val (.ref cb), .val (.ref bgx), .val (.ref bgy)] [(.int cc1), (.int qq), (.int f1), (.int cc0), (.int pp), (.int f0), (.int bx), (.ref bgx)])) rfl (by rw [hml]; rfl) (argsL := [(.ref bgx), (.int bx), (.int f0), (.int pp), (.int cc0), (.int f1), (.int qq), (.int cc1)]) (rest := []) (lenOf pd_12 rfl) rfl (by show 2 * 0 + _ ≤ _; exact Nat.le_of_eq rfl) (hb hby at_179) (fun _ _ => ⟨rfl, (rfl : T6_18.heap = _), (by decide : 0 + 2 + 4 + 2 + 2 + 2 + 0 ≤ _), (by decide : 0 + 12 + 200 + 9 + 7 + 7 + 0 ≤ _)⟩)
  dsimp only [Pt.U, Pt.locs, Pt.cells, Pt.slots] at X6_19 l6_19 y6_19 z6_19 st6_19 hQ6_19
  subst l6_19 y6_19 z6_19
  obtain ⟨rfl, N6q_19, g14_19⟩ := hQ6_19
  have N6_19 := Fr.app N6_18 N6q_19
  have st_19p : ∀ target, Steps p.tables e below (T6_19.setTop (mkF m 185 #[.val (.int p1), .val (.int p2), .val (.int p3), .val (.int p4), .val (.int p5), .val (.int f0), .val (.int f1), .val (.int pp), .val (.int qq), .val (.int cc0), .val (.int cc1), .val (.int bx), .val (.int by'), .val (.ref b6_8), .val (.ref b8_8), .val (.ref cb), .val (.ref bgx), .val (.ref bgy)] [])) target → Steps p.tables e below (T6_18.setTop (mkF m 163 #[.val (.int p1), .val (.int p2), .val (.int p3), .val (.int p4), .val (.int p5), .val (.int f0), .val (.int f1), .val (.int pp), .val (.int qq), .val (.int cc0), .val (.int cc1), .val (.int bx), .val (.int by'), .val (.ref b6_8), .val (.ref b8_8), .val (.ref cb), .val (.ref bgx), .val (.ref bgy)] [])) target := by
    intro target kt
    show Steps p.tables e below (T6_18.setTop (mkF m 163 #[.val (.int p1), .val (.int p2), .val (.int p3), .val (.int p4), .val (.int p5), .val (.int f0), .val (.int f1), .val (.int pp), .val (.int qq), .val (.int cc0), .val (.int cc1), .val (.int bx), .val (.int by'), .val (.ref b6_8), .val (.ref b8_8), .val (.ref cb), .val (.ref bgx), .val (.ref bgy)] [])) _
    refine XS.aload X6_18.here hx rfl (hb hby at_163) rfl rfl ?_
    show Steps p.tables e below (T6_18.setTop (mkF m 165 #[.val (.int p1), .val (.int p2), .val (.int p3), .val (.int p4), .val (.int p5), .val (.int f0), .val (.int f1), .val (.int pp), .val (.int qq), .val (.int cc0), .val (.int cc1), .val (.int bx), .val (.int by'), .val (.ref b6_8), .val (.ref b8_8), .val (.ref cb), .val (.ref bgx), .val (.ref bgy)] [(.ref bgx)])) _
    refine XS.iload X6_18.here hx rfl (hb hby at_165) rfl ?_
    show Steps p.tables e below (T6_18.setTop (mkF m 167 #[.val (.int p1), .val (.int p2), .val (.int p3), .val (.int p4), .val (.int p5), .val (.int f0), .val (.int f1), .val (.int pp), .val (.int qq), .val (.int cc0), .val (.int cc1), .val (.int bx), .val (.int by'), .val (.ref b6_8), .val (.ref b8_8), .val (.ref cb), .val (.ref bgx), .val (.ref bgy)] [(.int bx), (.ref bgx)])) _
    refine XS.iload X6_18.here hx rfl (hb hby at_167) rfl ?_
    show Steps p.tables e below (T6_18.setTop (mkF m 169 #[.val (.int p1), .val (.int p2), .val (.int p3), .val (.int p4), .val (.int p5), .val (.int f0), .val (.int f1), .val (.int pp), .val (.int qq), .val (.int cc0), .val (.int cc1), .val (.int bx), .val (.int by'), .val (.ref b6_8), .val (.ref b8_8), .val (.ref cb), .val (.ref bgx), .val (.ref bgy)] [(.int f0), (.int bx), (.ref bgx)])) _
    refine XS.iload X6_18.here hx rfl (hb hby at_169) rfl ?_
    show Steps p.tables e below (T6_18.setTop (mkF m 171 #[.val (.int p1), .val (.int p2), .val (.int p3), .val (.int p4), .val (.int p5), .val (.int f0), .val (.int f1), .val (.int pp), .val (.int qq), .val (.int cc0), .val (.int cc1), .val (.int bx), .val (.int by'), .val (.ref b6_8), .val (.ref b8_8), .val (.ref cb), .val (.ref bgx), .val (.ref bgy)] [(.int pp), (.int f0), (.int bx), (.ref bgx)])) _
    refine XS.iload X6_18.here hx rfl (hb hby at_171) rfl ?_
    show Steps p.tables e below (T6_18.setTop (mkF m 173 #[.val (.int p1), .val (.int p2), .val (.int p3), .val (.int p4), .val (.int p5), .val (.int f0), .val (.int f1), .val (.int pp), .val (.int qq), .val (.int cc0), .val (.int cc1), .val (.int bx), .val (.int by'), .val (.ref b6_8), .val (.ref b8_8), .val (.ref cb), .val (.ref bgx), .val (.ref bgy)] [(.int cc0), (.int pp), (.int f0), (.int bx), (.ref bgx)])) _
    refine XS.iload X6_18.here hx rfl (hb hby at_173) rfl ?_
    show Steps p.tables e below (T6_18.setTop (mkF m 175 #[.val (.int p1), .val (.int p2), .val (.int p3), .val (.int p4), .val (.int p5), .val (.int f0), .val (.int f1), .val (.int pp), .val (.int qq), .val (.int cc0), .val (.int cc1), .val (.int bx), .val (.int by'), .val (.ref b6_8), .val (.ref b8_8), .val (.ref cb), .val (.ref bgx), .val (.ref bgy)] [(.int f1), (.int cc0), (.int pp), (.int f0), (.int bx), (.ref bgx)])) _
    refine XS.iload X6_18.here hx rfl (hb hby at_175) rfl ?_
    show Steps p.tables e below (T6_18.setTop (mkF m 177 #[.val (.int p1), .val (.int p2), .val (.int p3), .val (.int p4), .val (.int p5), .val (.int f0), .val (.int f1), .val (.int pp), .val (.int qq), .val (.int cc0), .val (.int cc1), .val (.int bx), .val (.int by'), .val (.ref b6_8), .val (.ref b8_8), .val (.ref cb), .val (.ref bgx), .val (.ref bgy)] [(.int qq), (.int f1), (.int cc0), (.int pp), (.int f0), (.int bx), (.ref bgx)])) _
    refine XS.iload X6_18.here hx rfl (hb hby at_177) rfl ?_
    show Steps p.tables e below (T6_18.setTop (mkF m 179 #[.val (.int p1), .val (.int p2), .val (.int p3), .val (.int p4), .val (.int p5), .val (.int f0), .val (.int f1), .val (.int pp), .val (.int qq), .val (.int cc0), .val (.int cc1), .val (.int bx), .val (.int by'), .val (.ref b6_8), .val (.ref b8_8), .val (.ref cb), .val (.ref bgx), .val (.ref bgy)] [(.int cc1), (.int qq), (.int f1), (.int cc0), (.int pp), (.int f0), (.int bx), (.ref bgx)])) _
    refine st6_19 _ ?_
    show Steps p.tables e below (T6_19.setTop (mkF m 182 #[.val (.int p1), .val (.int p2), .val (.int p3), .val (.int p4), .val (.int p5), .val (.int f0), .val (.int f1), .val (.int pp), .val (.int qq), .val (.int cc0), .val (.int cc1), .val (.int bx), .val (.int by'), .val (.ref b6_8), .val (.ref b8_8), .val (.ref cb), .val (.ref bgx), .val (.ref bgy)] [(.int (1 : Int32))])) _
    refine XS.ifNo X6_19.here hx rfl (hb hby at_182) rfl ((if0 _ _).trans (feq ((by decide) : ¬ ((1 : Int32) = (0 : Int32)))).1) ?_
    exact kt
  obtain ⟨_, _, ⟨T6_20, L6_20, k6_20, n6_20⟩, -, X6_20, ⟨Lc6_20, hQ6_20, l6_20, y6_20, z6_20⟩, st6_20⟩ := Jvm.LawKit.callS X6_19 hx (y := (⟨"com/example/tilecairn/tilecairn/zonal/BuilderEndRowPinLaw", "ok", "([IIZIIZII)Z"⟩ : MethodName)) hown (mvT hZ (hw _ (List.mem_of_getElem? (i := 110) rfl))) (mvT hZ (hw _ (List.mem_of_getElem? (i := 111) rfl))) (mvT hZ (hw _ (List.mem_of_getElem? (i := 112) rfl))) (mvT hZ (hw _ (List.mem_of_getElem? (i := 113) rfl))) (by decide) (backOf (W := 0) (rm14 l Z a0 hw [] bgy by' f0 pp cc0 f1 qq cc1 _ zz' vv' T6_18.heap n0 ZH Vgy u5 u6) hZ (hw _ (List.mem_of_getElem? (i := 113) rfl)) (hw _ (List.mem_of_getElem? (i := 112) rfl)) (by decide) (by decide)) (g := (mkF m 201 #[.val (.int p1), .val (.int p2), .val (.int p3), .val (.int p4), .val (.int p5), .val (.int f0), .val (.int f1), .val (.int pp), .val (.int qq), .val (.int cc0), .val (.int cc1), .val (.int bx), .val (.int by'), .val (.ref b6_8), .val (.ref b8_8), .val (.ref cb), .val (.ref bgx), .val (.ref bgy)] [(.int cc1), (.int qq), (.int f1), (.int cc0), (.int pp), (.int f0), (.int by'), (.ref bgy)])) rfl (by rw [hml]; rfl) (argsL := [(.ref bgy), (.int by'), (.int f0), (.int pp), (.int cc0), (.int f1), (.int qq), (.int cc1)]) (rest := []) (lenOf pd_12 rfl) rfl (by show 2 * 0 + _ ≤ _; exact Nat.le_of_eq rfl) (hb hby at_201) (fun _ _ => ⟨rfl, g14_19, (by decide : 0 + 2 + 4 + 2 + 2 + 2 + 0 ≤ _), (by decide : 0 + 12 + 200 + 9 + 7 + 7 + 0 ≤ _)⟩)
  dsimp only [Pt.U, Pt.locs, Pt.cells, Pt.slots] at X6_20 l6_20 y6_20 z6_20 st6_20 hQ6_20
  subst l6_20 y6_20 z6_20
  obtain ⟨rfl, N6q_20, g14_20⟩ := hQ6_20
  have N6_20 := Fr.app N6_19 N6q_20
  have st_20p : ∀ target, Steps p.tables e below (T6_20.setTop (mkF m 212 #[.val (.int p1), .val (.int p2), .val (.int p3), .val (.int p4), .val (.int p5), .val (.int f0), .val (.int f1), .val (.int pp), .val (.int qq), .val (.int cc0), .val (.int cc1), .val (.int bx), .val (.int by'), .val (.ref b6_8), .val (.ref b8_8), .val (.ref cb), .val (.ref bgx), .val (.ref bgy)] [(.int (1 : Int32))])) target → Steps p.tables e below (T6_19.setTop (mkF m 185 #[.val (.int p1), .val (.int p2), .val (.int p3), .val (.int p4), .val (.int p5), .val (.int f0), .val (.int f1), .val (.int pp), .val (.int qq), .val (.int cc0), .val (.int cc1), .val (.int bx), .val (.int by'), .val (.ref b6_8), .val (.ref b8_8), .val (.ref cb), .val (.ref bgx), .val (.ref bgy)] [])) target := by
    intro target kt
    show Steps p.tables e below (T6_19.setTop (mkF m 185 #[.val (.int p1), .val (.int p2), .val (.int p3), .val (.int p4), .val (.int p5), .val (.int f0), .val (.int f1), .val (.int pp), .val (.int qq), .val (.int cc0), .val (.int cc1), .val (.int bx), .val (.int by'), .val (.ref b6_8), .val (.ref b8_8), .val (.ref cb), .val (.ref bgx), .val (.ref bgy)] [])) _
    refine XS.aload X6_19.here hx rfl (hb hby at_185) rfl rfl ?_
    show Steps p.tables e below (T6_19.setTop (mkF m 187 #[.val (.int p1), .val (.int p2), .val (.int p3), .val (.int p4), .val (.int p5), .val (.int f0), .val (.int f1), .val (.int pp), .val (.int qq), .val (.int cc0), .val (.int cc1), .val (.int bx), .val (.int by'), .val (.ref b6_8), .val (.ref b8_8), .val (.ref cb), .val (.ref bgx), .val (.ref bgy)] [(.ref bgy)])) _
    refine XS.iload X6_19.here hx rfl (hb hby at_187) rfl ?_
    show Steps p.tables e below (T6_19.setTop (mkF m 189 #[.val (.int p1), .val (.int p2), .val (.int p3), .val (.int p4), .val (.int p5), .val (.int f0), .val (.int f1), .val (.int pp), .val (.int qq), .val (.int cc0), .val (.int cc1), .val (.int bx), .val (.int by'), .val (.ref b6_8), .val (.ref b8_8), .val (.ref cb), .val (.ref bgx), .val (.ref bgy)] [(.int by'), (.ref bgy)])) _
    refine XS.iload X6_19.here hx rfl (hb hby at_189) rfl ?_
    show Steps p.tables e below (T6_19.setTop (mkF m 191 #[.val (.int p1), .val (.int p2), .val (.int p3), .val (.int p4), .val (.int p5), .val (.int f0), .val (.int f1), .val (.int pp), .val (.int qq), .val (.int cc0), .val (.int cc1), .val (.int bx), .val (.int by'), .val (.ref b6_8), .val (.ref b8_8), .val (.ref cb), .val (.ref bgx), .val (.ref bgy)] [(.int f0), (.int by'), (.ref bgy)])) _
    refine XS.iload X6_19.here hx rfl (hb hby at_191) rfl ?_
    show Steps p.tables e below (T6_19.setTop (mkF m 193 #[.val (.int p1), .val (.int p2), .val (.int p3), .val (.int p4), .val (.int p5), .val (.int f0), .val (.int f1), .val (.int pp), .val (.int qq), .val (.int cc0), .val (.int cc1), .val (.int bx), .val (.int by'), .val (.ref b6_8), .val (.ref b8_8), .val (.ref cb), .val (.ref bgx), .val (.ref bgy)] [(.int pp), (.int f0), (.int by'), (.ref bgy)])) _
    refine XS.iload X6_19.here hx rfl (hb hby at_193) rfl ?_
    show Steps p.tables e below (T6_19.setTop (mkF m 195 #[.val (.int p1), .val (.int p2), .val (.int p3), .val (.int p4), .val (.int p5), .val (.int f0), .val (.int f1), .val (.int pp), .val (.int qq), .val (.int cc0), .val (.int cc1), .val (.int bx), .val (.int by'), .val (.ref b6_8), .val (.ref b8_8), .val (.ref cb), .val (.ref bgx), .val (.ref bgy)] [(.int cc0), (.int pp), (.int f0), (.int by'), (.ref bgy)])) _
    refine XS.iload X6_19.here hx rfl (hb hby at_195) rfl ?_
    show Steps p.tables e below (T6_19.setTop (mkF m 197 #[.val (.int p1), .val (.int p2), .val (.int p3), .val (.int p4), .val (.int p5), .val (.int f0), .val (.int f1), .val (.int pp), .val (.int qq), .val (.int cc0), .val (.int cc1), .val (.int bx), .val (.int by'), .val (.ref b6_8), .val (.ref b8_8), .val (.ref cb), .val (.ref bgx), .val (.ref bgy)] [(.int f1), (.int cc0), (.int pp), (.int f0), (.int by'), (.ref bgy)])) _
    refine XS.iload X6_19.here hx rfl (hb hby at_197) rfl ?_
    show Steps p.tables e below (T6_19.setTop (mkF m 199 #[.val (.int p1), .val (.int p2), .val (.int p3), .val (.int p4), .val (.int p5), .val (.int f0), .val (.int f1), .val (.int pp), .val (.int qq), .val (.int cc0), .val (.int cc1), .val (.int bx), .val (.int by'), .val (.ref b6_8), .val (.ref b8_8), .val (.ref cb), .val (.ref bgx), .val (.ref bgy)] [(.int qq), (.int f1), (.int cc0), (.int pp), (.int f0), (.int by'), (.ref bgy)])) _
    refine XS.iload X6_19.here hx rfl (hb hby at_199) rfl ?_
    show Steps p.tables e below (T6_19.setTop (mkF m 201 #[.val (.int p1), .val (.int p2), .val (.int p3), .val (.int p4), .val (.int p5), .val (.int f0), .val (.int f1), .val (.int pp), .val (.int qq), .val (.int cc0), .val (.int cc1), .val (.int bx), .val (.int by'), .val (.ref b6_8), .val (.ref b8_8), .val (.ref cb), .val (.ref bgx), .val (.ref bgy)] [(.int cc1), (.int qq), (.int f1), (.int cc0), (.int pp), (.int f0), (.int by'), (.ref bgy)])) _
    refine st6_20 _ ?_
    show Steps p.tables e below (T6_20.setTop (mkF m 204 #[.val (.int p1), .val (.int p2), .val (.int p3), .val (.int p4), .val (.int p5), .val (.int f0), .val (.int f1), .val (.int pp), .val (.int qq), .val (.int cc0), .val (.int cc1), .val (.int bx), .val (.int by'), .val (.ref b6_8), .val (.ref b8_8), .val (.ref cb), .val (.ref bgx), .val (.ref bgy)] [(.int (1 : Int32))])) _
    refine XS.ifNo X6_20.here hx rfl (hb hby at_204) rfl ((if0 _ _).trans (feq ((by decide) : ¬ ((1 : Int32) = (0 : Int32)))).1) ?_
    show Steps p.tables e below (T6_20.setTop (mkF m 207 #[.val (.int p1), .val (.int p2), .val (.int p3), .val (.int p4), .val (.int p5), .val (.int f0), .val (.int f1), .val (.int pp), .val (.int qq), .val (.int cc0), .val (.int cc1), .val (.int bx), .val (.int by'), .val (.ref b6_8), .val (.ref b8_8), .val (.ref cb), .val (.ref bgx), .val (.ref bgy)] [])) _
    refine XS.iconst X6_20.here hx rfl (hb hby at_207) ?_
    show Steps p.tables e below (T6_20.setTop (mkF m 208 #[.val (.int p1), .val (.int p2), .val (.int p3), .val (.int p4), .val (.int p5), .val (.int f0), .val (.int f1), .val (.int pp), .val (.int qq), .val (.int cc0), .val (.int cc1), .val (.int bx), .val (.int by'), .val (.ref b6_8), .val (.ref b8_8), .val (.ref cb), .val (.ref bgx), .val (.ref bgy)] [(.int (1 : Int32))])) _
    refine XS.goto X6_20.here hx rfl (pc0 := 208) (pc' := 212) rfl (hb hby at_208) (by decide) (by decide) ?_
    exact kt
  obtain ⟨fs, hr, hrun, hended, hW, hsame⟩ := X6_20.leave (v := some (.int (1 : Int32))) (fun h => by rw [Bd.returns] at h; cases h)
  refine ⟨_, _, pre0 _ ?_, hrun, hended, _, _, rfl, ?_, ⟨_, rfl⟩, hW, hsame.mono (by decide) (by decide)⟩
  · show Steps p.tables e below (s₁.setTop (mkF m 0 #[.val (.int p1), .val (.int p2), .val (.int p3), .val (.int p4), .val (.int p5), .unset, .unset, .unset, .unset, .unset, .unset, .unset, .unset, .unset, .unset, .unset, .unset, .unset] [])) _
    refine st_3p _ ?_
    refine st_6p _ ?_
    refine st_7p _ ?_
    refine st_8p _ ?_
    refine stA _ ?_
    refine stB _ ?_
    refine st_15p _ ?_
    refine st_16p _ ?_
    refine st_17p _ ?_
    refine st_18p _ ?_
    refine st_19p _ ?_
    refine st_20p _ ?_
    exact retN X6_20 hx (t := .boolean) Bd.returns (by simp) (hb hby at_212) hr
  · show Q0 Z p1 p2 p3 p4 p5 h0 n0 _ T6_20.heap _
    rw [g14_20]
    exact ⟨rfl, N6_20⟩
set_option maxRecDepth 65536 in
set_option maxHeartbeats 40000000 in
theorem comes_1 {Post : Tables → Env → Array Value → State → Outcome → State → Prop} (hpost : ∀ tb e args s v u, (limb_1_1.after args s (.returned v) u = true ∧ limb_1_2.after args s (.returned v) u = true ∧ True) → FrameEnd s (.returned v) u (Jvm.fieldLocs frame_1_writes args s ++ Jvm.arrayLocs frame_1_arrays args s ++ Jvm.staticLocs frame_1_statics s) 32 576 → Post tb e args s (.returned v) u) :
    ArmFor flags0 classFile x code maxLocals ret World_1 tables_1 room_1 Calls_1 rest_1 Pre_1 Post := by
  intro l hfl _ _ p e ha hc hk s m args below hf hA hF happ hP
  obtain ⟨hcalls, hrest, hpre⟩ := hP
  obtain ⟨-, -, -, hnamed, -, -, -, hat⟩ := (Spec.applies_iff hf).mp happ
  obtain ⟨hg, hn⟩ := and_e (Cond.before_iff.mp (show (Jvm.Cond.and given_1 narrow_1).before args s = true from hpre))
  obtain ⟨g18, g19⟩ := and_e hg
  obtain ⟨g20, g21⟩ := and_e g19
  obtain ⟨g22, g23⟩ := and_e g21
  obtain ⟨g24, g25⟩ := and_e g23
  obtain ⟨g26, g27⟩ := and_e g25
  obtain ⟨w0, w1, w2, w3, w4, rfl⟩ : ∃ w0 w1 w2 w3 w4 : Value, args = #[w0, w1, w2, w3, w4] := by
    have hs : args.size = 5 := by simpa [Cond.value, given_1] using g18
    obtain ⟨L⟩ := args
    match L, hs with
    | [w0, w1, w2, w3, w4], _ => exact ⟨w0, w1, w2, w3, w4, rfl⟩
  have hw := fun d (hd : d ∈ tables_1) => atoms_spec (ws := Jvm.Cond.code x code maxLocals ret :: tables_1) hat d (List.mem_cons_of_mem _ hd)
  have hfit : Fit s := fun {y c} hc i hi => by
    obtain ⟨ha, rfl⟩ := Array.getElem?_eq_some_iff.mp hc
    have q := List.all_eq_true.mp ((Array.all_eq_true_iff_forall_mem.mp hF) _ (Array.getElem_mem ha)) i (List.mem_range.mpr hi)
    simpa [Array.getElem?_eq_getElem hi] using q
  obtain ⟨i0, ei0⟩ := is_v g20
  obtain rfl : w0 = (.int i0) := Option.some.inj ei0
  obtain ⟨i1, ei1⟩ := is_v g22
  obtain rfl : w1 = (.int i1) := Option.some.inj ei1
  obtain ⟨i2, ei2⟩ := is_v g24
  obtain rfl : w2 = (.int i2) := Option.some.inj ei2
  obtain ⟨i3, ei3⟩ := is_v g26
  obtain rfl : w3 = (.int i3) := Option.some.inj ei3
  obtain ⟨i4, ei4⟩ := is_v g27
  obtain rfl : w4 = (.int i4) := Option.some.inj ei4
  obtain ⟨n, o, h1, h2, h3, _, L, rfl, ⟨rfl, N⟩, hq⟩ := rm0 l s _ hw tables_1 i0 i1 i2 i3 i4 s.heap s.heap.size (Nat.le_refl _) p e ha hc hk s m _ below hf ((Spec.applies_iff_loose hf).mp happ).1 ⟨rfl, State.Warmed39.refl s, rfl⟩ trivial
  refine ⟨n, _, h1, h2, h3, hpost _ _ _ _ _ _ ⟨Cond.after_iff.mpr rfl, Cond.after_iff.mpr (eq_i res_at (Term.int_eval (1)) rfl), trivial⟩ ⟨hq.1, hq.2.1, (hq.2.2.sift fun y hy => Or.inr (N y hy)).mono (by decide) (by decide)⟩⟩
theorem main_1_1 : Claimed_1_1 := comes_1 fun _ _ _ _ _ _ h hF => ⟨h.1, hF⟩
theorem main_1_2 : Claimed_1_2 := comes_1 fun _ _ _ _ _ _ h hF => ⟨h.2.1, hF⟩
end Jvm.Pilot.@@N@@
namespace Jvm.Pilot.@@N@@
open Jvm Jvm.ClassFile Sem Op Lib Jvm.Free Jvm.Stand Jvm.Pilot.@@N@@.Jvm.D
/-! MADE BY PROGRAM (witnessworld.py) out of the Statement's table words and the real class files: 15 classes; the members and pool entries that the words name. The judged class is class 1, her method 2. -/
namespace start1
open Jvm.ClassFile
def u (s : String) : CpInfo := .utf8 (stringToUtf16 s)
/-- a pool by its gaps: so many unusable entries, then the entry; so many at the end -/
def gap : Nat → List CpInfo → List CpInfo
  | 0, r => r
  | n + 1, r => .unusable :: gap n r
def poolList (es : List (Nat × CpInfo)) (last : Nat) : List CpInfo := es.foldr (fun e r => gap e.1 (e.2 :: r)) (gap last [])
def pool (es : List (Nat × CpInfo)) (last : Nat) : Array CpInfo := ⟨poolList es last⟩
def fileOf (pool : Array CpInfo) (this : Nat) (attrs : Array Attribute := #[]) (ms : Array MethodInfo := #[]) (fl : Nat := 33) (sup : Nat := 0) (ifs : Array Nat := #[]) (fds : Array FieldInfo := #[]) : ClassFile where
  minorVersion := 0
  majorVersion := 65
  constantPool := pool
  accessFlags := fl
  thisClass := this
  superClass := sup
  interfaces := ifs
  fields := fds
  methods := ms
  attributes := attrs
def plain (name : String) (sup : Option ClassId) : Class where
  name := name
  kind := .ordinary
  loader := none
  accessFlags := 33
  super := sup
  interfaces := #[]
  cf := none
  fields := #[]
  methods := #[]
  instanceTypes := #[]
  staticTypes := #[]
  resolved := #[]
  callSites := []
  init := .initialized
  statics := none
  mirror := none

def pool0 : Array CpInfo := pool [(5, u "<init>"), (0, u "()V"), (1, .class_ 10), (1, u "java/lang/Object"), (85, u "clone"), (0, u "()Ljava/lang/Object;")] 26

def k0c0 : Code := { maxStack := 0, maxLocals := 1, code := object_method_1_code, exceptionTable := #[], attributes := #[] }
def k0m0 : Method := { name := "<init>", desc := "()V", sig := { parameters := [], returnType := none }, accessFlags := 1, code := some k0c0 }
def k0m1 : Method := { name := "clone", desc := "()Ljava/lang/Object;", sig := { parameters := [], returnType := some (.object "java/lang/Object") }, accessFlags := 260, code := none }
/-- java/lang/Object -/
def k0 : Class := { plain "java/lang/Object" none with
  accessFlags := 33
  interfaces := #[]
  cf := some (fileOf pool0 8 #[] #[{ accessFlags := 1, nameIndex := 5, descriptorIndex := 6, attributes := #[] }, { accessFlags := 260, nameIndex := 96, descriptorIndex := 97, attributes := #[] }] 33 0 #[] #[])
  fields := #[]
  methods := #[k0m0, k0m1]
  instanceTypes := #[]
  staticTypes := #[]
  resolved := Array.replicate 124 none
  statics := none }

def pool1 : Array CpInfo := pool [(2, .class_ 4), (1, u "java/lang/Object"), (0, u "<init>"), (0, u "()V"), (0, .integer 2147483647), (0, .class_ 9), (0, u "com/example/tilecairn/tilecairn/tiff/Layout"), (0, .methodref 8 11), (0, .nameAndType 5 12), (0, u "(ZIIII)V"), (0, .class_ 14), (0, u "com/example/tilecairn/tilecairn/zonal/CoveredBlocks$Builder"), (0, .methodref 13 16), (0, .nameAndType 5 17), (0, u "(Lcom/example/tilecairn/tilecairn/tiff/Layout;I)V"), (0, .methodref 13 19), (0, .nameAndType 20 21), (0, u "add"), (0, u "(II)V"), (0, .methodref 13 23), (0, .nameAndType 24 6), (0, u "endRow"), (0, .methodref 13 26), (0, .nameAndType 27 28), (0, u "build"), (0, u "()Lcom/example/tilecairn/tilecairn/zonal/CoveredBlocks;"), (0, .methodref 30 31), (0, .class_ 32), (0, .nameAndType 33 34), (0, u "com/example/tilecairn/tilecairn/zonal/CoveredBlocks"), (0, u "polygons"), (0, u "(I)[I"), (0, .methodref 36 37), (0, .class_ 38), (0, .nameAndType 39 40), (0, u "com/example/tilecairn/tilecairn/zonal/BuilderEndRowPinLaw"), (0, u "ok"), (0, u "([IIZIIZII)Z"), (3, u "law"), (0, u "(IIIII)Z")] 6

def k1m0 : Method := { name := "<init>", desc := "()V", sig := { parameters := [], returnType := none }, accessFlags := 2, code := none }
def k1c1 : Code := { maxStack := 2, maxLocals := 11, code := method_2_code, exceptionTable := #[], attributes := #[] }
def k1m1 : Method := { name := "ok", desc := "([IIZIIZII)Z", sig := { parameters := [(.array .int), .int, .boolean, .int, .int, .boolean, .int, .int], returnType := some .boolean }, accessFlags := 10, code := some k1c1 }
def k1c2 : Code := { maxStack := 8, maxLocals := 18, code := code, exceptionTable := #[], attributes := #[] }
def k1m2 : Method := { name := "law", desc := "(IIIII)Z", sig := { parameters := [.int, .int, .int, .int, .int], returnType := some .boolean }, accessFlags := 9, code := some k1c2 }
/-- com/example/tilecairn/tilecairn/zonal/BuilderEndRowPinLaw -/
def k1 : Class := { plain "com/example/tilecairn/tilecairn/zonal/BuilderEndRowPinLaw" (some 0) with
  accessFlags := 49
  interfaces := #[]
  cf := some (fileOf pool1 36 #[] #[{ accessFlags := 2, nameIndex := 5, descriptorIndex := 6, attributes := #[] }, { accessFlags := 10, nameIndex := 39, descriptorIndex := 40, attributes := #[] }, { accessFlags := 9, nameIndex := 44, descriptorIndex := 45, attributes := #[] }] 49 2 #[] #[])
  fields := #[]
  methods := #[k1m0, k1m1, k1m2]
  instanceTypes := #[]
  staticTypes := #[]
  resolved := Array.replicate 52 none
  statics := none }

def pool2 : Array CpInfo := pool [(1, .methodref 2 3), (0, .class_ 4), (0, .nameAndType 5 6), (0, u "java/lang/Object"), (0, u "<init>"), (0, u "()V"), (0, .class_ 8), (0, u "java/lang/Record")] 13

def k2c0 : Code := { maxStack := 1, maxLocals := 1, code := jdk_30_method_1_code, exceptionTable := #[], attributes := #[] }
def k2m0 : Method := { name := "<init>", desc := "()V", sig := { parameters := [], returnType := none }, accessFlags := 4, code := some k2c0 }
/-- java/lang/Record -/
def k2 : Class := { plain "java/lang/Record" (some 0) with
  accessFlags := 1057
  interfaces := #[]
  cf := some (fileOf pool2 7 #[] #[{ accessFlags := 4, nameIndex := 5, descriptorIndex := 6, attributes := #[] }] 1057 2 #[] #[])
  fields := #[]
  methods := #[k2m0]
  instanceTypes := #[]
  staticTypes := #[]
  resolved := Array.replicate 22 none
  statics := none }

def pool3 : Array CpInfo := pool [(1, .methodref 2 3), (0, .class_ 4), (0, .nameAndType 5 6), (0, u "java/lang/Record"), (0, u "<init>"), (0, u "()V"), (0, .fieldref 8 9), (0, .class_ 10), (0, .nameAndType 11 12), (0, u "com/example/tilecairn/tilecairn/tiff/Layout"), (0, u "tiled"), (0, u "Z"), (0, .fieldref 8 14), (0, .nameAndType 15 16), (0, u "blockWidth"), (0, u "I"), (0, .fieldref 8 18), (0, .nameAndType 19 16), (0, u "blockHeight"), (0, .fieldref 8 21), (0, .nameAndType 22 16), (0, u "blocksAcross"), (0, .fieldref 8 24), (0, .nameAndType 25 16), (0, u "blocksDown"), (12, u "(ZIIII)V"), (4, u "()I")] 35

def k3c0 : Code := { maxStack := 2, maxLocals := 6, code := prog_41_method_1_code, exceptionTable := #[], attributes := #[] }
def k3m0 : Method := { name := "<init>", desc := "(ZIIII)V", sig := { parameters := [.boolean, .int, .int, .int, .int], returnType := none }, accessFlags := 1, code := some k3c0 }
def k3c1 : Code := { maxStack := 1, maxLocals := 1, code := prog_41_method_14_code, exceptionTable := #[], attributes := #[] }
def k3m1 : Method := { name := "blocksAcross", desc := "()I", sig := { parameters := [], returnType := some .int }, accessFlags := 1, code := some k3c1 }
def k3c2 : Code := { maxStack := 1, maxLocals := 1, code := prog_41_method_15_code, exceptionTable := #[], attributes := #[] }
def k3m2 : Method := { name := "blocksDown", desc := "()I", sig := { parameters := [], returnType := some .int }, accessFlags := 1, code := some k3c2 }
/-- com/example/tilecairn/tilecairn/tiff/Layout -/
def k3 : Class := { plain "com/example/tilecairn/tilecairn/tiff/Layout" (some 2) with
  accessFlags := 49
  interfaces := #[]
  cf := some (fileOf pool3 8 #[] #[{ accessFlags := 1, nameIndex := 5, descriptorIndex := 38, attributes := #[] }, { accessFlags := 1, nameIndex := 22, descriptorIndex := 43, attributes := #[] }, { accessFlags := 1, nameIndex := 25, descriptorIndex := 43, attributes := #[] }] 49 2 #[] #[{ accessFlags := 18, nameIndex := 11, descriptorIndex := 12, attributes := #[] }, { accessFlags := 18, nameIndex := 15, descriptorIndex := 16, attributes := #[] }, { accessFlags := 18, nameIndex := 19, descriptorIndex := 16, attributes := #[] }, { accessFlags := 18, nameIndex := 22, descriptorIndex := 16, attributes := #[] }, { accessFlags := 18, nameIndex := 25, descriptorIndex := 16, attributes := #[] }])
  fields := #[{ name := "tiled", type := .boolean, accessFlags := 18, slot := 0, constantValue := 0 }, { name := "blockWidth", type := .int, accessFlags := 18, slot := 1, constantValue := 0 }, { name := "blockHeight", type := .int, accessFlags := 18, slot := 2, constantValue := 0 }, { name := "blocksAcross", type := .int, accessFlags := 18, slot := 3, constantValue := 0 }, { name := "blocksDown", type := .int, accessFlags := 18, slot := 4, constantValue := 0 }]
  methods := #[k3m0, k3m1, k3m2]
  instanceTypes := #[.boolean, .int, .int, .int, .int]
  staticTypes := #[]
  resolved := Array.replicate 79 none
  statics := none }

def pool4 : Array CpInfo := pool [(1, .class_ 2), (0, u "com/example/tilecairn/tilecairn/zonal/CoveredBlocks"), (0, .methodref 4 5), (0, .class_ 6), (0, .nameAndType 7 8), (0, u "java/lang/Object"), (0, u "<init>"), (0, u "()V"), (0, .fieldref 10 11), (0, .class_ 12), (0, .nameAndType 13 14), (0, u "com/example/tilecairn/tilecairn/zonal/CoveredBlocks$Builder"), (0, u "runs"), (0, u "[I"), (0, .fieldref 10 16), (0, .nameAndType 17 18), (0, u "layout"), (0, u "Lcom/example/tilecairn/tilecairn/tiff/Layout;"), (0, .methodref 20 21), (0, .class_ 22), (0, .nameAndType 23 24), (0, u "com/example/tilecairn/tilecairn/tiff/Layout"), (0, u "blocksDown"), (0, u "()I"), (0, .fieldref 10 26), (0, .nameAndType 27 14), (0, u "starts"), (0, .fieldref 10 29), (0, .nameAndType 30 14), (0, u "openRun"), (0, .fieldref 10 32), (0, .nameAndType 33 14), (0, u "openRow"), (0, .methodref 35 36), (0, .class_ 37), (0, .nameAndType 38 39), (0, u "java/util/Arrays"), (0, u "fill"), (0, u "([II)V"), (0, .fieldref 10 41), (0, .nameAndType 42 43), (0, u "blockRow"), (0, u "I"), (0, .fieldref 10 45), (0, .nameAndType 46 43), (0, u "runCount"), (0, .methodref 35 48), (0, .nameAndType 49 50), (0, u "copyOf"), (0, u "([II)[I"), (0, .methodref 1 52), (0, .nameAndType 7 53), (0, u "(Lcom/example/tilecairn/tilecairn/tiff/Layout;[I[I)V"), (0, u "(Lcom/example/tilecairn/tilecairn/tiff/Layout;I)V"), (2, u "add"), (0, u "(II)V"), (1, u "endRow"), (0, u "build"), (0, u "()Lcom/example/tilecairn/tilecairn/zonal/CoveredBlocks;")] 5

def k4c0 : Code := { maxStack := 3, maxLocals := 3, code := prog_67_method_1_code, exceptionTable := #[], attributes := #[] }
def k4m0 : Method := { name := "<init>", desc := "(Lcom/example/tilecairn/tilecairn/tiff/Layout;I)V", sig := { parameters := [(.object "com/example/tilecairn/tilecairn/tiff/Layout"), .int], returnType := none }, accessFlags := 0, code := some k4c0 }
def k4c1 : Code := { maxStack := 4, maxLocals := 4, code := prog_67_method_2_code, exceptionTable := #[], attributes := #[] }
def k4m1 : Method := { name := "add", desc := "(II)V", sig := { parameters := [.int, .int], returnType := none }, accessFlags := 0, code := some k4c1 }
def k4c2 : Code := { maxStack := 3, maxLocals := 1, code := prog_67_method_3_code, exceptionTable := #[], attributes := #[] }
def k4m2 : Method := { name := "endRow", desc := "()V", sig := { parameters := [], returnType := none }, accessFlags := 0, code := some k4c2 }
def k4c3 : Code := { maxStack := 7, maxLocals := 1, code := prog_67_method_4_code, exceptionTable := #[], attributes := #[] }
def k4m3 : Method := { name := "build", desc := "()Lcom/example/tilecairn/tilecairn/zonal/CoveredBlocks;", sig := { parameters := [], returnType := some (.object "com/example/tilecairn/tilecairn/zonal/CoveredBlocks") }, accessFlags := 0, code := some k4c3 }
/-- com/example/tilecairn/tilecairn/zonal/CoveredBlocks$Builder -/
def k4 : Class := { plain "com/example/tilecairn/tilecairn/zonal/CoveredBlocks$Builder" (some 0) with
  accessFlags := 48
  interfaces := #[]
  cf := some (fileOf pool4 10 #[.nestHost 1] #[{ accessFlags := 0, nameIndex := 7, descriptorIndex := 54, attributes := #[] }, { accessFlags := 0, nameIndex := 57, descriptorIndex := 58, attributes := #[] }, { accessFlags := 0, nameIndex := 60, descriptorIndex := 8, attributes := #[] }, { accessFlags := 0, nameIndex := 61, descriptorIndex := 62, attributes := #[] }] 48 4 #[] #[{ accessFlags := 18, nameIndex := 17, descriptorIndex := 18, attributes := #[] }, { accessFlags := 18, nameIndex := 27, descriptorIndex := 14, attributes := #[] }, { accessFlags := 2, nameIndex := 13, descriptorIndex := 14, attributes := #[] }, { accessFlags := 2, nameIndex := 46, descriptorIndex := 43, attributes := #[] }, { accessFlags := 2, nameIndex := 42, descriptorIndex := 43, attributes := #[] }, { accessFlags := 18, nameIndex := 30, descriptorIndex := 14, attributes := #[] }, { accessFlags := 18, nameIndex := 33, descriptorIndex := 14, attributes := #[] }])
  fields := #[{ name := "layout", type := (.object "com/example/tilecairn/tilecairn/tiff/Layout"), accessFlags := 18, slot := 0, constantValue := 0 }, { name := "starts", type := (.array .int), accessFlags := 18, slot := 1, constantValue := 0 }, { name := "runs", type := (.array .int), accessFlags := 2, slot := 2, constantValue := 0 }, { name := "runCount", type := .int, accessFlags := 2, slot := 3, constantValue := 0 }, { name := "blockRow", type := .int, accessFlags := 2, slot := 4, constantValue := 0 }, { name := "openRun", type := (.array .int), accessFlags := 18, slot := 5, constantValue := 0 }, { name := "openRow", type := (.array .int), accessFlags := 18, slot := 6, constantValue := 0 }]
  methods := #[k4m0, k4m1, k4m2, k4m3]
  instanceTypes := #[(.object "com/example/tilecairn/tilecairn/tiff/Layout"), (.array .int), (.array .int), .int, .int, (.array .int), (.array .int)]
  staticTypes := #[]
  resolved := Array.replicate 68 none
  statics := none }

def pool5 : Array CpInfo := pool [(2, .class_ 4), (1, u "java/lang/Object"), (0, u "<init>"), (0, u "()V"), (7, .class_ 16), (1, u "java/util/Arrays"), (57, .class_ 76), (1, u "java/util/Arrays$NaturalOrder"), (32, u "()Ljava/lang/Object;"), (3, .class_ 115), (1, u "java/util/Arrays$LegacyMergeSort"), (1, u "Z"), (10, .nameAndType 129 109), (0, u "clone"), (20, .methodref 151 152), (0, .class_ 153), (0, .nameAndType 154 155), (0, u "java/lang/System"), (0, u "arraycopy"), (0, u "(Ljava/lang/Object;ILjava/lang/Object;II)V"), (146, u "copyOf"), (1, .methodref 305 306), (0, .class_ 307), (0, .nameAndType 308 309), (0, u "java/lang/Math"), (0, u "min"), (0, u "(II)I"), (6, .methodref 317 128), (0, .class_ 318), (0, u "[I"), (56, .class_ 376), (0, u "java/util/Arrays$ArrayList"), (68, u "$assertionsDisabled"), (269, u "MIN_ARRAY_SORT_GRAN"), (0, u "I"), (2, u "INSERTIONSORT_THRESHOLD"), (120, u "fill"), (4, u "([II)V"), (25, u "([II)[I"), (103, .class_ 976), (0, u "java/util/Arrays$ArrayItr")] 52

def k5m0 : Method := { name := "<init>", desc := "()V", sig := { parameters := [], returnType := none }, accessFlags := 2, code := none }
def k5c1 : Code := { maxStack := 3, maxLocals := 4, code := jdk_65_method_103_code, exceptionTable := #[], attributes := #[] }
def k5m1 : Method := { name := "fill", desc := "([II)V", sig := { parameters := [(.array .int), .int], returnType := none }, accessFlags := 9, code := some k5c1 }
def k5c2 : Code := { maxStack := 6, maxLocals := 3, code := jdk_65_method_123_code, exceptionTable := #[], attributes := #[] }
def k5m2 : Method := { name := "copyOf", desc := "([II)[I", sig := { parameters := [(.array .int), .int], returnType := some (.array .int) }, accessFlags := 9, code := some k5c2 }
/-- java/util/Arrays -/
def k5 : Class := { plain "java/util/Arrays" (some 0) with
  accessFlags := 49
  interfaces := #[]
  cf := some (fileOf pool5 14 #[.nestMembers #[975, 375, 113, 74]] #[{ accessFlags := 2, nameIndex := 5, descriptorIndex := 6, attributes := #[] }, { accessFlags := 9, nameIndex := 840, descriptorIndex := 845, attributes := #[] }, { accessFlags := 9, nameIndex := 302, descriptorIndex := 871, attributes := #[] }] 49 2 #[] #[{ accessFlags := 26, nameIndex := 715, descriptorIndex := 716, attributes := #[] }, { accessFlags := 26, nameIndex := 719, descriptorIndex := 716, attributes := #[] }, { accessFlags := 4120, nameIndex := 445, descriptorIndex := 117, attributes := #[] }])
  fields := #[{ name := "MIN_ARRAY_SORT_GRAN", type := .int, accessFlags := 26, slot := 0, constantValue := 0 }, { name := "INSERTIONSORT_THRESHOLD", type := .int, accessFlags := 26, slot := 1, constantValue := 0 }, { name := "$assertionsDisabled", type := .boolean, accessFlags := 4120, slot := 2, constantValue := 0 }]
  methods := #[k5m0, k5m1, k5m2]
  instanceTypes := #[]
  staticTypes := #[.int, .int, .boolean]
  resolved := Array.replicate 1029 none
  statics := none }

def pool6 : Array CpInfo := pool [(1, .methodref 2 3), (0, .class_ 4), (0, .nameAndType 5 6), (0, u "java/lang/Object"), (0, u "<init>"), (0, u "()V"), (0, .fieldref 8 9), (0, .class_ 10), (0, .nameAndType 11 12), (0, u "com/example/tilecairn/tilecairn/zonal/CoveredBlocks"), (0, u "layout"), (0, u "Lcom/example/tilecairn/tilecairn/tiff/Layout;"), (0, .fieldref 8 14), (0, .nameAndType 15 16), (0, u "starts"), (0, u "[I"), (0, .fieldref 8 18), (0, .nameAndType 19 16), (0, u "runs"), (1, .class_ 23), (1, u "com/example/tilecairn/tilecairn/tiff/Layout"), (1, u "()I"), (0, .methodref 21 27), (0, .nameAndType 28 25), (0, u "blocksAcross"), (12, .methodref 42 43), (0, .class_ 44), (0, .nameAndType 45 46), (0, u "java/util/Arrays"), (0, u "copyOf"), (0, u "([II)[I"), (0, u "RUN"), (0, u "I"), (2, u "(Lcom/example/tilecairn/tilecairn/tiff/Layout;[I[I)V"), (5, u "polygons"), (0, u "(I)[I"), (4, .class_ 64), (0, u "com/example/tilecairn/tilecairn/zonal/CoveredBlocks$Builder")] 2

def k6c0 : Code := { maxStack := 2, maxLocals := 4, code := prog_66_method_1_code, exceptionTable := #[], attributes := #[] }
def k6m0 : Method := { name := "<init>", desc := "(Lcom/example/tilecairn/tilecairn/tiff/Layout;[I[I)V", sig := { parameters := [(.object "com/example/tilecairn/tilecairn/tiff/Layout"), (.array .int), (.array .int)], returnType := none }, accessFlags := 2, code := some k6c0 }
def k6c1 : Code := { maxStack := 5, maxLocals := 7, code := prog_66_method_3_code, exceptionTable := #[], attributes := #[] }
def k6m1 : Method := { name := "polygons", desc := "(I)[I", sig := { parameters := [.int], returnType := some (.array .int) }, accessFlags := 0, code := some k6c1 }
/-- com/example/tilecairn/tilecairn/zonal/CoveredBlocks -/
def k6 : Class := { plain "com/example/tilecairn/tilecairn/zonal/CoveredBlocks" (some 0) with
  accessFlags := 48
  interfaces := #[]
  cf := some (fileOf pool6 8 #[.nestMembers #[63]] #[{ accessFlags := 2, nameIndex := 5, descriptorIndex := 51, attributes := #[] }, { accessFlags := 0, nameIndex := 57, descriptorIndex := 58, attributes := #[] }] 48 2 #[] #[{ accessFlags := 26, nameIndex := 47, descriptorIndex := 48, attributes := #[] }, { accessFlags := 18, nameIndex := 11, descriptorIndex := 12, attributes := #[] }, { accessFlags := 18, nameIndex := 15, descriptorIndex := 16, attributes := #[] }, { accessFlags := 18, nameIndex := 19, descriptorIndex := 16, attributes := #[] }])
  fields := #[{ name := "RUN", type := .int, accessFlags := 26, slot := 0, constantValue := 0 }, { name := "layout", type := (.object "com/example/tilecairn/tilecairn/tiff/Layout"), accessFlags := 18, slot := 0, constantValue := 0 }, { name := "starts", type := (.array .int), accessFlags := 18, slot := 1, constantValue := 0 }, { name := "runs", type := (.array .int), accessFlags := 18, slot := 2, constantValue := 0 }]
  methods := #[k6m0, k6m1]
  instanceTypes := #[(.object "com/example/tilecairn/tilecairn/tiff/Layout"), (.array .int), (.array .int)]
  staticTypes := #[.int]
  resolved := Array.replicate 67 none
  statics := none }

def pool7 : Array CpInfo := pool [(1, .class_ 2), (0, u "java/lang/Math"), (1, .class_ 6), (1, u "java/lang/Object"), (0, u "<init>"), (0, u "()V"), (89, .class_ 100), (1, u "java/lang/Math$RandomNumberGeneratorHolder"), (71, u "negativeZeroFloatBits"), (0, u "J"), (2, u "negativeZeroDoubleBits"), (24, u "min"), (43, u "$assertionsDisabled"), (0, u "Z"), (88, u "(II)I"), (2, u "twoToTheDoubleScaleDown"), (0, u "D"), (4, u "twoToTheDoubleScaleUp"), (9, u "E"), (3, u "PI"), (2, u "TAU"), (2, u "DEGREES_TO_RADIANS"), (0, u "RADIANS_TO_DEGREES")] 94

def k7m0 : Method := { name := "<init>", desc := "()V", sig := { parameters := [], returnType := none }, accessFlags := 2, code := none }
def k7c1 : Code := { maxStack := 2, maxLocals := 2, code := jdk_29_method_69_code, exceptionTable := #[], attributes := #[] }
def k7m1 : Method := { name := "min", desc := "(II)I", sig := { parameters := [.int, .int], returnType := some .int }, accessFlags := 9, code := some k7c1 }
/-- java/lang/Math -/
def k7 : Class := { plain "java/lang/Math" (some 0) with
  accessFlags := 49
  interfaces := #[]
  cf := some (fileOf pool7 1 #[.nestMembers #[98]] #[{ accessFlags := 2, nameIndex := 7, descriptorIndex := 8, attributes := #[] }, { accessFlags := 9, nameIndex := 201, descriptorIndex := 335, attributes := #[] }] 49 4 #[] #[{ accessFlags := 25, nameIndex := 354, descriptorIndex := 339, attributes := #[] }, { accessFlags := 25, nameIndex := 358, descriptorIndex := 339, attributes := #[] }, { accessFlags := 25, nameIndex := 361, descriptorIndex := 339, attributes := #[] }, { accessFlags := 26, nameIndex := 364, descriptorIndex := 339, attributes := #[] }, { accessFlags := 26, nameIndex := 365, descriptorIndex := 339, attributes := #[] }, { accessFlags := 26, nameIndex := 172, descriptorIndex := 173, attributes := #[] }, { accessFlags := 26, nameIndex := 176, descriptorIndex := 173, attributes := #[] }, { accessFlags := 8, nameIndex := 344, descriptorIndex := 339, attributes := #[] }, { accessFlags := 8, nameIndex := 338, descriptorIndex := 339, attributes := #[] }, { accessFlags := 4120, nameIndex := 245, descriptorIndex := 246, attributes := #[] }])
  fields := #[{ name := "E", type := .double, accessFlags := 25, slot := 0, constantValue := 0 }, { name := "PI", type := .double, accessFlags := 25, slot := 1, constantValue := 0 }, { name := "TAU", type := .double, accessFlags := 25, slot := 2, constantValue := 0 }, { name := "DEGREES_TO_RADIANS", type := .double, accessFlags := 26, slot := 3, constantValue := 0 }, { name := "RADIANS_TO_DEGREES", type := .double, accessFlags := 26, slot := 4, constantValue := 0 }, { name := "negativeZeroFloatBits", type := .long, accessFlags := 26, slot := 5, constantValue := 0 }, { name := "negativeZeroDoubleBits", type := .long, accessFlags := 26, slot := 6, constantValue := 0 }, { name := "twoToTheDoubleScaleUp", type := .double, accessFlags := 8, slot := 7, constantValue := 0 }, { name := "twoToTheDoubleScaleDown", type := .double, accessFlags := 8, slot := 8, constantValue := 0 }, { name := "$assertionsDisabled", type := .boolean, accessFlags := 4120, slot := 9, constantValue := 0 }]
  methods := #[k7m0, k7m1]
  instanceTypes := #[]
  staticTypes := #[.double, .double, .double, .double, .double, .long, .long, .double, .double, .boolean]
  resolved := Array.replicate 460 none
  statics := none }

def pool8 : Array CpInfo := pool [(2, .class_ 4), (1, u "java/lang/Object"), (0, u "<init>"), (0, u "()V"), (1, .class_ 10), (1, u "java/lang/System"), (0, u "allowSecurityManager"), (0, u "I"), (16, u "cons"), (0, u "Ljava/io/Console;"), (77, .class_ 110), (1, u "java/lang/System$CallersHolder"), (43, u "initialErrStream"), (0, u "Ljava/io/PrintStream;"), (19, u "security"), (0, u "Ljava/lang/SecurityManager;"), (31, .class_ 209), (0, u "java/lang/System$1"), (7, u "props"), (0, u "Ljava/util/Properties;"), (2, u "lineSeparator"), (0, u "Ljava/lang/String;"), (96, .class_ 321), (1, u "java/lang/System$LoggerFinder"), (5, .class_ 328), (0, u "java/lang/System$Logger"), (67, u "err"), (2, u "out"), (91, u "notSupportedJnuEncoding"), (15, u "in"), (17, u "initialIn"), (0, u "Ljava/io/InputStream;"), (35, u "bootLayer"), (0, u "Ljava/lang/ModuleLayer;"), (99, .class_ 664), (0, u "java/lang/System$2"), (9, u "NEVER"), (2, u "MAYBE"), (49, u "arraycopy"), (0, u "(Ljava/lang/Object;ILjava/lang/Object;II)V"), (72, .class_ 802), (0, u "java/lang/System$Logger$Level")] 31

def k8m0 : Method := { name := "<init>", desc := "()V", sig := { parameters := [], returnType := none }, accessFlags := 2, code := none }
def k8m1 : Method := { name := "arraycopy", desc := "(Ljava/lang/Object;ILjava/lang/Object;II)V", sig := { parameters := [(.object "java/lang/Object"), .int, (.object "java/lang/Object"), .int, .int], returnType := none }, accessFlags := 265, code := none }
/-- java/lang/System -/
def k8 : Class := { plain "java/lang/System" (some 0) with
  accessFlags := 49
  interfaces := #[]
  cf := some (fileOf pool8 8 #[.nestMembers #[319, 327, 801, 108, 663, 208]] #[{ accessFlags := 2, nameIndex := 5, descriptorIndex := 6, attributes := #[] }, { accessFlags := 265, nameIndex := 727, descriptorIndex := 728, attributes := #[] }] 49 2 #[] #[{ accessFlags := 25, nameIndex := 507, descriptorIndex := 526, attributes := #[] }, { accessFlags := 25, nameIndex := 399, descriptorIndex := 155, attributes := #[] }, { accessFlags := 25, nameIndex := 396, descriptorIndex := 155, attributes := #[] }, { accessFlags := 10, nameIndex := 525, descriptorIndex := 526, attributes := #[] }, { accessFlags := 26, nameIndex := 674, descriptorIndex := 12, attributes := #[] }, { accessFlags := 26, nameIndex := 677, descriptorIndex := 12, attributes := #[] }, { accessFlags := 10, nameIndex := 11, descriptorIndex := 12, attributes := #[] }, { accessFlags := 74, nameIndex := 175, descriptorIndex := 176, attributes := #[] }, { accessFlags := 10, nameIndex := 491, descriptorIndex := 222, attributes := #[] }, { accessFlags := 74, nameIndex := 29, descriptorIndex := 30, attributes := #[] }, { accessFlags := 74, nameIndex := 154, descriptorIndex := 155, attributes := #[] }, { accessFlags := 10, nameIndex := 217, descriptorIndex := 218, attributes := #[] }, { accessFlags := 10, nameIndex := 221, descriptorIndex := 222, attributes := #[] }, { accessFlags := 8, nameIndex := 562, descriptorIndex := 563, attributes := #[] }])
  fields := #[{ name := "in", type := (.object "java/io/InputStream"), accessFlags := 25, slot := 0, constantValue := 0 }, { name := "out", type := (.object "java/io/PrintStream"), accessFlags := 25, slot := 1, constantValue := 0 }, { name := "err", type := (.object "java/io/PrintStream"), accessFlags := 25, slot := 2, constantValue := 0 }, { name := "initialIn", type := (.object "java/io/InputStream"), accessFlags := 10, slot := 3, constantValue := 0 }, { name := "NEVER", type := .int, accessFlags := 26, slot := 4, constantValue := 0 }, { name := "MAYBE", type := .int, accessFlags := 26, slot := 5, constantValue := 0 }, { name := "allowSecurityManager", type := .int, accessFlags := 10, slot := 6, constantValue := 0 }, { name := "security", type := (.object "java/lang/SecurityManager"), accessFlags := 74, slot := 7, constantValue := 0 }, { name := "notSupportedJnuEncoding", type := (.object "java/lang/String"), accessFlags := 10, slot := 8, constantValue := 0 }, { name := "cons", type := (.object "java/io/Console"), accessFlags := 74, slot := 9, constantValue := 0 }, { name := "initialErrStream", type := (.object "java/io/PrintStream"), accessFlags := 74, slot := 10, constantValue := 0 }, { name := "props", type := (.object "java/util/Properties"), accessFlags := 10, slot := 11, constantValue := 0 }, { name := "lineSeparator", type := (.object "java/lang/String"), accessFlags := 10, slot := 12, constantValue := 0 }, { name := "bootLayer", type := (.object "java/lang/ModuleLayer"), accessFlags := 8, slot := 13, constantValue := 0 }]
  methods := #[k8m0, k8m1]
  instanceTypes := #[]
  staticTypes := #[(.object "java/io/InputStream"), (.object "java/io/PrintStream"), (.object "java/io/PrintStream"), (.object "java/io/InputStream"), .int, .int, .int, (.object "java/lang/SecurityManager"), (.object "java/lang/String"), (.object "java/io/Console"), (.object "java/io/PrintStream"), (.object "java/util/Properties"), (.object "java/lang/String"), (.object "java/lang/ModuleLayer")]
  resolved := Array.replicate 834 none
  statics := none }

def pool9 : Array CpInfo := pool [(1, .class_ 2), (0, u "java/lang/Cloneable"), (0, .class_ 4), (0, u "java/lang/Object")] 2

/-- java/lang/Cloneable -/
def k9 : Class := { plain "java/lang/Cloneable" (some 0) with
  accessFlags := 1537
  interfaces := #[]
  cf := some (fileOf pool9 1 #[] #[] 1537 3 #[] #[])
  fields := #[]
  methods := #[]
  instanceTypes := #[]
  staticTypes := #[]
  resolved := Array.replicate 7 none
  statics := none }

def pool10 : Array CpInfo := pool [(1, u "java/io/Serializable"), (0, .class_ 1), (0, u "java/lang/Object"), (0, .class_ 3)] 3

/-- java/io/Serializable -/
def k10 : Class := { plain "java/io/Serializable" (some 0) with
  accessFlags := 1537
  interfaces := #[]
  cf := some (fileOf pool10 2 #[] #[] 1537 4 #[] #[])
  fields := #[]
  methods := #[]
  instanceTypes := #[]
  staticTypes := #[]
  resolved := Array.replicate 8 none
  statics := none }

/-- the primitive byte -/
def k11 : Class := { plain "byte" none with kind := .primitive 'B', accessFlags := 0x411 }
/-- [B -/
def k12 : Class := { plain "[B" (some 0) with kind := .array 11 .byte, interfaces := #[9, 10], accessFlags := 1041 }

/-- the primitive int -/
def k13 : Class := { plain "int" none with kind := .primitive 'I', accessFlags := 0x411 }
/-- [I -/
def k14 : Class := { plain "[I" (some 0) with kind := .array 13 .int, interfaces := #[9, 10], accessFlags := 1041 }

def heap : Heap := #[]
def classes : Array Class := #[k0, k1, k2, k3, k4, k5, k6, k7, k8, k9, k10, k11, k12, k13, k14]
def interned : List (Array UInt16 × Addr) := []
def slotsUsed : Nat := 0
def theMethod : MethodId := ⟨1, 2⟩
def args0 : Array Value := #[.int 15, .int 1, .int 2, .int 1, .int 6]
def aboutOver (below : List Frame) : State where
  vm := { classes := classes, interned := interned.toArray }
  heap := heap
  slotsUsed := slotsUsed
  threads := #[{ frames := .invoking theMethod args0 :: below }]
def below0 : List Frame := [.native { method := ⟨0, 0⟩, args := #[] }]
def about1 : State := aboutOver below0
def p0 : Program := .bare "" "" ""
def e0 : Env := launch0.env 0 0 0
theorem w_frames : about1.frames = Frame.invoking theMethod args0 :: below0 := rfl
set_option maxRecDepth 65536 in
theorem w_args : argsFit about1.vm theMethod args0 = true := by decide +kernel
set_option maxRecDepth 65536 in
theorem w_heap : heapFits about1 = true := by decide +kernel
set_option maxRecDepth 65536 in
theorem w_runnable : about1.curStatus? = some .runnable := by decide +kernel
set_option maxRecDepth 65536 in
theorem w_alone : about1.alone = true := by decide +kernel
set_option maxRecDepth 65536 in
theorem w_named : about1.methodNamed? x = some theMethod := by decide +kernel
set_option maxRecDepth 65536 in
theorem w_hears : about1.hears theMethod below0 = true := by decide +kernel
set_option maxRecDepth 65536 in
theorem w_ripe : about1.ripe theMethod args0 below0 = true := by decide +kernel
theorem w_running : about1.status = .running := rfl
set_option maxRecDepth 65536 in
theorem w_room : about1.hasRoom e0.platform room_1 = true :=
  launch0.hasRoom_least _ room_1 (by decide +kernel) (by decide +kernel) (by decide +kernel) (by decide +kernel) (by decide +kernel) (by decide +kernel)
theorem allAtoms_all (ts : List Jvm.Cond) (a : Array Jvm.Value) (st : Jvm.State) : (allAtoms ts).before a st = ts.all (fun c => c.before a st) := by
  induction ts with
  | nil => rfl
  | cons c t ih =>
    show (Jvm.Cond.and c (allAtoms t)).before a st = _
    rw [Jvm.Cond.before_and, ih, List.all_cons]
def words1 : List Jvm.Cond := Jvm.Cond.code x code maxLocals ret :: tables_1
/-- a 'code' word, met by the world's own term for the bytes: nothing is compared byte by byte -/
theorem code_word {y : MethodName} {bytes : ByteArray} {mx : Nat} {rt : Option FieldType} {a : Array Value} {s : State} {m : MethodId} {meth : Method} {c : Code} (h1 : s.methodNamed? y = some m) (h2 : s.vm.method? m = some meth) (h3 : meth.code = some c) (h4 : c.code = bytes)
    (h5 : (c.maxLocals == mx && c.exceptionTable.isEmpty && decide (c.maxStack ≤ mostOperands) && decide (meth.sig.returnType = rt) && !meth.locks && decide (parseMethodDescriptor y.desc = some meth.sig)) = true) : (Jvm.Cond.code y bytes mx rt).before a s = true := by
  simp only [Bool.and_eq_true, beq_iff_eq, Bool.not_eq_true', decide_eq_true_eq] at h5
  obtain ⟨⟨⟨⟨⟨g1, g2⟩, g3⟩, g4⟩, g5⟩, g6⟩ := h5
  simp [Cond.before, Cond.holds, Cond.value, h1, h2, h3, h4, g1, g2, g3, g4, g5, g6]
def isCode : Jvm.Cond → Bool
  | .code _ _ _ _ => true
  | _ => false
theorem all_split {L : List Jvm.Cond} {P : Jvm.Cond → Bool} (h1 : L.all (fun c => isCode c || P c) = true) (h2 : ∀ c ∈ L.filter isCode, P c = true) : L.all P = true := by
  refine List.all_eq_true.mpr fun c hc => ?_
  have h := List.all_eq_true.mp h1 c hc
  rcases Bool.eq_false_or_eq_true (isCode c) with hi | hi
  · exact h2 c (List.mem_filter.mpr ⟨hc, hi⟩)
  · simpa [hi] using h
set_option maxRecDepth 65536 in
theorem w_c0 : (Jvm.Cond.code x code maxLocals ret).before args0 about1 = true := code_word (m := ⟨1, 2⟩) (meth := k1m2) (c := k1c2) (by decide +kernel) rfl rfl rfl (by decide +kernel)
set_option maxRecDepth 65536 in
theorem w_c1 : (Jvm.Cond.code ({ cls := "com/example/tilecairn/tilecairn/tiff/Layout", name := "<init>", desc := "(ZIIII)V" } : Jvm.MethodName) prog_41_method_1_code (6 : Nat) (Option.none : Option Jvm.ClassFile.FieldType)).before args0 about1 = true := code_word (m := ⟨3, 0⟩) (meth := k3m0) (c := k3c0) (by decide +kernel) rfl rfl rfl (by decide +kernel)
set_option maxRecDepth 65536 in
theorem w_c2 : (Jvm.Cond.code ({ cls := "java/lang/Record", name := "<init>", desc := "()V" } : Jvm.MethodName) jdk_30_method_1_code (1 : Nat) (Option.none : Option Jvm.ClassFile.FieldType)).before args0 about1 = true := code_word (m := ⟨2, 0⟩) (meth := k2m0) (c := k2c0) (by decide +kernel) rfl rfl rfl (by decide +kernel)
set_option maxRecDepth 65536 in
theorem w_c3 : (Jvm.Cond.code ({ cls := "java/lang/Object", name := "<init>", desc := "()V" } : Jvm.MethodName) object_method_1_code (1 : Nat) (Option.none : Option Jvm.ClassFile.FieldType)).before args0 about1 = true := code_word (m := ⟨0, 0⟩) (meth := k0m0) (c := k0c0) (by decide +kernel) rfl rfl rfl (by decide +kernel)
set_option maxRecDepth 65536 in
theorem w_c4 : (Jvm.Cond.code ({ cls := "com/example/tilecairn/tilecairn/zonal/CoveredBlocks$Builder", name := "<init>", desc := "(Lcom/example/tilecairn/tilecairn/tiff/Layout;I)V" } : Jvm.MethodName) prog_67_method_1_code (3 : Nat) (Option.none : Option Jvm.ClassFile.FieldType)).before args0 about1 = true := code_word (m := ⟨4, 0⟩) (meth := k4m0) (c := k4c0) (by decide +kernel) rfl rfl rfl (by decide +kernel)
set_option maxRecDepth 65536 in
theorem w_c5 : (Jvm.Cond.code ({ cls := "com/example/tilecairn/tilecairn/tiff/Layout", name := "blocksDown", desc := "()I" } : Jvm.MethodName) prog_41_method_15_code (1 : Nat) (Option.some Jvm.ClassFile.FieldType.int)).before args0 about1 = true := code_word (m := ⟨3, 2⟩) (meth := k3m2) (c := k3c2) (by decide +kernel) rfl rfl rfl (by decide +kernel)
set_option maxRecDepth 65536 in
theorem w_c6 : (Jvm.Cond.code ({ cls := "java/util/Arrays", name := "fill", desc := "([II)V" } : Jvm.MethodName) jdk_65_method_103_code (4 : Nat) (Option.none : Option Jvm.ClassFile.FieldType)).before args0 about1 = true := code_word (m := ⟨5, 1⟩) (meth := k5m1) (c := k5c1) (by decide +kernel) rfl rfl rfl (by decide +kernel)
set_option maxRecDepth 65536 in
theorem w_c7 : (Jvm.Cond.code ({ cls := "com/example/tilecairn/tilecairn/zonal/CoveredBlocks$Builder", name := "endRow", desc := "()V" } : Jvm.MethodName) prog_67_method_3_code (1 : Nat) (Option.none : Option Jvm.ClassFile.FieldType)).before args0 about1 = true := code_word (m := ⟨4, 2⟩) (meth := k4m2) (c := k4c2) (by decide +kernel) rfl rfl rfl (by decide +kernel)
set_option maxRecDepth 65536 in
theorem w_c8 : (Jvm.Cond.code ({ cls := "com/example/tilecairn/tilecairn/zonal/CoveredBlocks$Builder", name := "build", desc := "()Lcom/example/tilecairn/tilecairn/zonal/CoveredBlocks;" } : Jvm.MethodName) prog_67_method_4_code (1 : Nat) (Option.some (Jvm.ClassFile.FieldType.object "com/example/tilecairn/tilecairn/zonal/CoveredBlocks"))).before args0 about1 = true := code_word (m := ⟨4, 3⟩) (meth := k4m3) (c := k4c3) (by decide +kernel) rfl rfl rfl (by decide +kernel)
set_option maxRecDepth 65536 in
theorem w_c9 : (Jvm.Cond.code ({ cls := "java/util/Arrays", name := "copyOf", desc := "([II)[I" } : Jvm.MethodName) jdk_65_method_123_code (3 : Nat) (Option.some (Jvm.ClassFile.FieldType.array Jvm.ClassFile.FieldType.int))).before args0 about1 = true := code_word (m := ⟨5, 2⟩) (meth := k5m2) (c := k5c2) (by decide +kernel) rfl rfl rfl (by decide +kernel)
set_option maxRecDepth 65536 in
theorem w_c10 : (Jvm.Cond.code ({ cls := "java/lang/Math", name := "min", desc := "(II)I" } : Jvm.MethodName) jdk_29_method_69_code (2 : Nat) (Option.some Jvm.ClassFile.FieldType.int)).before args0 about1 = true := code_word (m := ⟨7, 1⟩) (meth := k7m1) (c := k7c1) (by decide +kernel) rfl rfl rfl (by decide +kernel)
set_option maxRecDepth 65536 in
theorem w_c11 : (Jvm.Cond.code ({ cls := "com/example/tilecairn/tilecairn/zonal/CoveredBlocks", name := "<init>", desc := "(Lcom/example/tilecairn/tilecairn/tiff/Layout;[I[I)V" } : Jvm.MethodName) prog_66_method_1_code (4 : Nat) (Option.none : Option Jvm.ClassFile.FieldType)).before args0 about1 = true := code_word (m := ⟨6, 0⟩) (meth := k6m0) (c := k6c0) (by decide +kernel) rfl rfl rfl (by decide +kernel)
set_option maxRecDepth 65536 in
theorem w_c12 : (Jvm.Cond.code ({ cls := "com/example/tilecairn/tilecairn/zonal/CoveredBlocks", name := "polygons", desc := "(I)[I" } : Jvm.MethodName) prog_66_method_3_code (7 : Nat) (Option.some (Jvm.ClassFile.FieldType.array Jvm.ClassFile.FieldType.int))).before args0 about1 = true := code_word (m := ⟨6, 1⟩) (meth := k6m1) (c := k6c1) (by decide +kernel) rfl rfl rfl (by decide +kernel)
set_option maxRecDepth 65536 in
theorem w_c13 : (Jvm.Cond.code ({ cls := "com/example/tilecairn/tilecairn/tiff/Layout", name := "blocksAcross", desc := "()I" } : Jvm.MethodName) prog_41_method_14_code (1 : Nat) (Option.some Jvm.ClassFile.FieldType.int)).before args0 about1 = true := code_word (m := ⟨3, 1⟩) (meth := k3m1) (c := k3c1) (by decide +kernel) rfl rfl rfl (by decide +kernel)
set_option maxRecDepth 65536 in
theorem w_c14 : (Jvm.Cond.code ({ cls := "com/example/tilecairn/tilecairn/zonal/BuilderEndRowPinLaw", name := "ok", desc := "([IIZIIZII)Z" } : Jvm.MethodName) method_2_code (11 : Nat) (Option.some Jvm.ClassFile.FieldType.boolean)).before args0 about1 = true := code_word (m := ⟨1, 1⟩) (meth := k1m1) (c := k1c1) (by decide +kernel) rfl rfl rfl (by decide +kernel)
set_option maxRecDepth 65536 in
theorem w_c15 : (Jvm.Cond.code ({ cls := "com/example/tilecairn/tilecairn/zonal/CoveredBlocks$Builder", name := "add", desc := "(II)V" } : Jvm.MethodName) prog_67_method_2_code (4 : Nat) (Option.none : Option Jvm.ClassFile.FieldType)).before args0 about1 = true := code_word (m := ⟨4, 1⟩) (meth := k4m1) (c := k4c1) (by decide +kernel) rfl rfl rfl (by decide +kernel)
def codes1 : List Jvm.Cond := [Jvm.Cond.code x code maxLocals ret, Jvm.Cond.code ({ cls := "com/example/tilecairn/tilecairn/tiff/Layout", name := "<init>", desc := "(ZIIII)V" } : Jvm.MethodName) prog_41_method_1_code (6 : Nat) (Option.none : Option Jvm.ClassFile.FieldType), Jvm.Cond.code ({ cls := "java/lang/Record", name := "<init>", desc := "()V" } : Jvm.MethodName) jdk_30_method_1_code (1 : Nat) (Option.none : Option Jvm.ClassFile.FieldType), Jvm.Cond.code ({ cls := "java/lang/Object", name := "<init>", desc := "()V" } : Jvm.MethodName) object_method_1_code (1 : Nat) (Option.none : Option Jvm.ClassFile.FieldType), Jvm.Cond.code ({ cls := "com/example/tilecairn/tilecairn/zonal/CoveredBlocks$Builder", name := "<init>", desc := "(Lcom/example/tilecairn/tilecairn/tiff/Layout;I)V" } : Jvm.MethodName) prog_67_method_1_code (3 : Nat) (Option.none : Option Jvm.ClassFile.FieldType), Jvm.Cond.code ({ cls := "com/example/tilecairn/tilecairn/tiff/Layout", name := "blocksDown", desc := "()I" } : Jvm.MethodName) prog_41_method_15_code (1 : Nat) (Option.some Jvm.ClassFile.FieldType.int), Jvm.Cond.code ({ cls := "java/util/Arrays", name := "fill", desc := "([II)V" } : Jvm.MethodName) jdk_65_method_103_code (4 : Nat) (Option.none : Option Jvm.ClassFile.FieldType), Jvm.Cond.code ({ cls := "com/example/tilecairn/tilecairn/zonal/CoveredBlocks$Builder", name := "endRow", desc := "()V" } : Jvm.MethodName) prog_67_method_3_code (1 : Nat) (Option.none : Option Jvm.ClassFile.FieldType), Jvm.Cond.code ({ cls := "com/example/tilecairn/tilecairn/zonal/CoveredBlocks$Builder", name := "build", desc := "()Lcom/example/tilecairn/tilecairn/zonal/CoveredBlocks;" } : Jvm.MethodName) prog_67_method_4_code (1 : Nat) (Option.some (Jvm.ClassFile.FieldType.object "com/example/tilecairn/tilecairn/zonal/CoveredBlocks")), Jvm.Cond.code ({ cls := "java/util/Arrays", name := "copyOf", desc := "([II)[I" } : Jvm.MethodName) jdk_65_method_123_code (3 : Nat) (Option.some (Jvm.ClassFile.FieldType.array Jvm.ClassFile.FieldType.int)), Jvm.Cond.code ({ cls := "java/lang/Math", name := "min", desc := "(II)I" } : Jvm.MethodName) jdk_29_method_69_code (2 : Nat) (Option.some Jvm.ClassFile.FieldType.int), Jvm.Cond.code ({ cls := "com/example/tilecairn/tilecairn/zonal/CoveredBlocks", name := "<init>", desc := "(Lcom/example/tilecairn/tilecairn/tiff/Layout;[I[I)V" } : Jvm.MethodName) prog_66_method_1_code (4 : Nat) (Option.none : Option Jvm.ClassFile.FieldType), Jvm.Cond.code ({ cls := "com/example/tilecairn/tilecairn/zonal/CoveredBlocks", name := "polygons", desc := "(I)[I" } : Jvm.MethodName) prog_66_method_3_code (7 : Nat) (Option.some (Jvm.ClassFile.FieldType.array Jvm.ClassFile.FieldType.int)), Jvm.Cond.code ({ cls := "com/example/tilecairn/tilecairn/tiff/Layout", name := "blocksAcross", desc := "()I" } : Jvm.MethodName) prog_41_method_14_code (1 : Nat) (Option.some Jvm.ClassFile.FieldType.int), Jvm.Cond.code ({ cls := "com/example/tilecairn/tilecairn/zonal/BuilderEndRowPinLaw", name := "ok", desc := "([IIZIIZII)Z" } : Jvm.MethodName) method_2_code (11 : Nat) (Option.some Jvm.ClassFile.FieldType.boolean), Jvm.Cond.code ({ cls := "com/example/tilecairn/tilecairn/zonal/CoveredBlocks$Builder", name := "add", desc := "(II)V" } : Jvm.MethodName) prog_67_method_2_code (4 : Nat) (Option.none : Option Jvm.ClassFile.FieldType)]
set_option maxRecDepth 65536 in
theorem codes_eq : words1.filter isCode = codes1 := rfl
theorem w_codes : ∀ c ∈ words1.filter isCode, c.before args0 about1 = true := by
  rw [codes_eq]
  intro c hc
  simp only [codes1, List.mem_cons, List.not_mem_nil, or_false] at hc
  rcases hc with rfl | rfl | rfl | rfl | rfl | rfl | rfl | rfl | rfl | rfl | rfl | rfl | rfl | rfl | rfl | rfl
  · exact w_c0
  · exact w_c1
  · exact w_c2
  · exact w_c3
  · exact w_c4
  · exact w_c5
  · exact w_c6
  · exact w_c7
  · exact w_c8
  · exact w_c9
  · exact w_c10
  · exact w_c11
  · exact w_c12
  · exact w_c13
  · exact w_c14
  · exact w_c15
set_option maxRecDepth 65536 in
theorem w_t1 : (words1.take 24).all (fun c => isCode c || c.before args0 about1) = true := by decide +kernel
set_option maxRecDepth 65536 in
theorem w_t2 : ((words1.drop 24).take 24).all (fun c => isCode c || c.before args0 about1) = true := by decide +kernel
set_option maxRecDepth 65536 in
theorem w_t3 : (((words1.drop 24).drop 24).take 24).all (fun c => isCode c || c.before args0 about1) = true := by decide +kernel
set_option maxRecDepth 65536 in
theorem w_t4 : ((((words1.drop 24).drop 24).drop 24).take 24).all (fun c => isCode c || c.before args0 about1) = true := by decide +kernel
set_option maxRecDepth 65536 in
theorem w_t5 : ((((words1.drop 24).drop 24).drop 24).drop 24).all (fun c => isCode c || c.before args0 about1) = true := by decide +kernel
theorem w_tables : (allAtoms (Jvm.Cond.code x code maxLocals ret :: tables_1)).before args0 about1 = true := by
  rw [allAtoms_all]
  show words1.all (fun c => c.before args0 about1) = true
  refine all_split ?_ w_codes
  rw [← List.take_append_drop 24 words1, List.all_append, w_t1, ← List.take_append_drop 24 (words1.drop 24), List.all_append, w_t2, ← List.take_append_drop 24 ((words1.drop 24).drop 24), List.all_append, w_t3, ← List.take_append_drop 24 (((words1.drop 24).drop 24).drop 24), List.all_append, w_t4, w_t5]
  rfl
set_option maxRecDepth 65536 in
theorem w_case : (Jvm.Cond.and given_1 narrow_1).before args0 about1 = true := by decide +kernel
theorem w_applies : (headSpec (Jvm.Cond.code x code maxLocals ret :: tables_1) room_1).applies x e0.platform about1 = true :=
  (Spec.applies_iff w_frames).mpr ⟨w_running, w_runnable, w_alone, w_named, w_hears, w_ripe, w_room, w_tables⟩
theorem atStart : AtStart classFile x code maxLocals ret World_1 tables_1 room_1 Calls_1 rest_1 Pre_1 launch0 p0 e0 about1 theMethod args0 below0 :=
  ⟨lists_1, trivial, launch0.admits_env _ _ _, launch0.least_env, fairChoices_fair.cas, fairChoices_fair.clock, w_frames, w_args, w_heap, w_applies, trivial, trivial, w_case⟩
end start1
theorem witness_1 : WitnessClaimed_1 := ⟨start1.p0, start1.e0, start1.about1, start1.theMethod, start1.args0, start1.below0, start1.atStart⟩
end Jvm.Pilot.@@N@@
