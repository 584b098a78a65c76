import JvmDerived
import JvmDerived.Pilot.@@N@@Statement
import JvmDerived.Pilot.@@N@@Code
set_option linter.unusedVariables false
set_option linter.unusedSimpArgs false
namespace Jvm.RoadKit
open Sem ClassFile Op Lib Jvm.Stand Jvm.Free Jvm.LawKit
section New
variable {p : Program} {l : Launch} {e : Env} {R : Room} {s : State} {m : MethodId} {args : Array Value} {below : List Frame} {meth : Method} {c : Code} {T : State} {locs : List Loc} {cells slots : Nat}
theorem retI (X : Stand p l e R s m args below meth c T locs cells slots) (hx : p.tables.exec = Jvm.exec) {pc : Nat} {Ls : Array Slot} {z : Int32} {rest : List Value} (hret : meth.sig.returnType = some .int) (hd : decode c.code pc = .ok (.ireturn, 1)) {fs : List Frame}
    (hl : ∀ (f : JFrame) (acts : List Action), f.method = m → f.locked = none → f.entered = [] → (doReturn e (T.setTop f) acts (some (.int z))).1 = T.setFrames fs) : Steps p.tables e below (T.setTop (mkF m pc Ls (.int z :: rest))) (T.setFrames fs) := by
  have hm' : T.vm.method? m = some meth := X.method'
  have hn : narrow .int (.int z) = .int z := rfl
  show Steps p.tables e below (T.setTop { method := m, pc := pc, locals := Ls, stack := _ :: rest, locked := none }) _
  jvm_step X.here [X.here.top, hx, hd, hm', hret, hn]
  first | (intro acts; rw [hl _ acts rfl rfl rfl]) | rw [hl _ _ rfl rfl rfl]
  exact Steps.refl _
end New
end Jvm.RoadKit
namespace Jvm.Pilot.@@N@@
open Jvm Jvm.ClassFile Sem Op Lib Jvm.Free Jvm.Stand Jvm.LawKit Jvm.RoadKit Bundle Jvm.Pilot.@@N@@.Jvm.D

theorem own_kp {h h' : Heap} (g : h' = h) : Keep h h' [] := by subst g; exact Keep.refl _ _
theorem own_kq {h h' : Heap} (ws : List Addr) (g : h' = h) : Keep h h' ws := by subst g; exact Keep.refl _ _
theorem own_fk {Z : State} {h h' : Heap} {a : Addr} {C n d : String} {v : Value} (F : Fld Z h a C n d v) (g : h' = h) : Fld Z h' a C n d v := by subst g; exact F
theorem own_ek {Z : State} {h h' : Heap} {a : Addr} {C : String} (F : Exa Z h a C) (g : h' = h) : Exa Z h' a C := by subst g; exact F
theorem own_zk {n : Nat} {h h' : Heap} (F : n ≤ h.size) (g : h' = h) : n ≤ h'.size := by subst g; exact F

def own_rem (x y : Int32) : Int32 := x - (x / y) * y
def own_div (x y : Int32) : Int32 := x / y
theorem own_and7 (x : Int32) : 0 ≤ (x &&& (2147483647 : Int32)).toInt := by
  have e : (x &&& (2147483647 : Int32)).toBitVec = x.toBitVec &&& 2147483647#32 := rfl
  have k : (x.toBitVec &&& 2147483647#32).toNat = x.toBitVec.toNat % 2147483648 := by rw [BitVec.toNat_and]; exact Nat.and_two_pow_sub_one_eq_mod _ 31
  show 0 ≤ (x &&& (2147483647 : Int32)).toBitVec.toInt
  rw [e, BitVec.toInt_eq_toNat_of_lt (by rw [k]; omega)]
  omega
theorem own_rem_toInt {x y : Int32} (hx : 0 ≤ x.toInt) (hy : 0 < y.toInt) : (own_rem x y).toInt = x.toInt % y.toInt := by
  unfold own_rem
  have h1 : (x / y).toInt = x.toInt / y.toInt := by
    rw [Int32.toInt_div, Int.tdiv_eq_ediv_of_nonneg hx]
    have a1 := Int.ediv_nonneg hx (Int.le_of_lt hy)
    have a2 : x.toInt / y.toInt ≤ x.toInt := Int.ediv_le_self _ hx
    have a3 := x.toInt_lt
    have := x.le_toInt
    exact Int.bmod_eq_of_le (by omega) (by omega)
  have h2 : (x / y * y).toInt = x.toInt / y.toInt * y.toInt := by
    rw [Int32.toInt_mul, h1]
    have b1 := Int.ediv_mul_le x.toInt (Int.ne_of_gt hy)
    have b2 := Int.mul_nonneg (Int.ediv_nonneg hx (Int.le_of_lt hy)) (Int.le_of_lt hy)
    have a3 := x.toInt_lt
    exact Int.bmod_eq_of_le (by omega) (by omega)
  rw [Int32.toInt_sub, h2]
  have b1 := Int.ediv_mul_le x.toInt (Int.ne_of_gt hy)
  have b2 := Int.mul_nonneg (Int.ediv_nonneg hx (Int.le_of_lt hy)) (Int.le_of_lt hy)
  have a3 := x.toInt_lt
  rw [Int.bmod_eq_of_le (by omega) (by omega), Int.emod_def, Int.mul_comm y.toInt]
theorem own_rem_in (x : Int32) {y : Int32} (hy : 0 < y.toInt) : 0 ≤ (own_rem (x &&& (2147483647 : Int32)) y).toInt ∧ (own_rem (x &&& (2147483647 : Int32)) y).toInt < y.toInt := by
  rw [own_rem_toInt (own_and7 x) hy]
  exact ⟨Int.emod_nonneg _ (Int.ne_of_gt hy), Int.emod_lt_of_pos _ hy⟩

/-- what meet returns for two arrays of z longs -/
def own_meet (z : Int32) (x0 y0 x1 y1 : Int64) : Int32 := if 0 < z ∧ ¬ (x0 &&& y0) = 0 then 1 else if 1 < z ∧ ¬ (x1 &&& y1) = 0 then 1 else 0
theorem own_three (x : Int32) : own_rem (x &&& (2147483647 : Int32)) (3 : Int32) = 0 ∨ own_rem (x &&& (2147483647 : Int32)) (3 : Int32) = 1 ∨ own_rem (x &&& (2147483647 : Int32)) (3 : Int32) = 2 := by
  obtain ⟨h1, h2⟩ := own_rem_in x (y := (3 : Int32)) (by decide)
  have e3 : (3 : Int32).toInt = 3 := rfl
  rw [e3] at h2
  have k : (own_rem (x &&& (2147483647 : Int32)) (3 : Int32)).toInt = 0 ∨ (own_rem (x &&& (2147483647 : Int32)) (3 : Int32)).toInt = 1 ∨ (own_rem (x &&& (2147483647 : Int32)) (3 : Int32)).toInt = 2 := by omega
  rcases k with k | k | k
  · exact Or.inl (Int32.toInt.inj k)
  · exact Or.inr (Or.inl (Int32.toInt.inj k))
  · exact Or.inr (Or.inr (Int32.toInt.inj k))
theorem d1_10 : decode prog_12_method_10_code 10 = .ok (.iload_n 2, 1) := by decide +kernel
theorem d1_11 : decode prog_12_method_10_code 11 = .ok (.ifCond .ne 27, 3) := by decide +kernel
theorem d1_14 : decode prog_12_method_10_code 14 = .ok (.aload_n 0, 1) := by decide +kernel
theorem d1_15 : decode prog_12_method_10_code 15 = .ok (.iload_n 3, 1) := by decide +kernel
theorem d1_16 : decode prog_12_method_10_code 16 = .ok (.laload, 1) := by decide +kernel
theorem d1_17 : decode prog_12_method_10_code 17 = .ok (.aload_n 1, 1) := by decide +kernel
theorem d1_18 : decode prog_12_method_10_code 18 = .ok (.iload_n 3, 1) := by decide +kernel
theorem d1_19 : decode prog_12_method_10_code 19 = .ok (.laload, 1) := by decide +kernel
theorem d1_20 : decode prog_12_method_10_code 20 = .ok (.land, 1) := by decide +kernel
theorem d1_21 : decode prog_12_method_10_code 21 = .ok (.lconst 0, 1) := by decide +kernel
theorem d1_22 : decode prog_12_method_10_code 22 = .ok (.lcmp, 1) := by decide +kernel
theorem d1_23 : decode prog_12_method_10_code 23 = .ok (.ifCond .eq 7, 3) := by decide +kernel
theorem d1_30 : decode prog_12_method_10_code 30 = .ok (.iconst 0, 1) := by decide +kernel
theorem d1_31 : decode prog_12_method_10_code 31 = .ok (.istore_n 2, 1) := by decide +kernel
theorem d1_32 : decode prog_12_method_10_code 32 = .ok (.iinc 3 1, 3) := by decide +kernel
theorem d1_35 : decode prog_12_method_10_code 35 = .ok (.goto (-31), 3) := by decide +kernel
theorem d1_26 : decode prog_12_method_10_code 26 = .ok (.iconst 1, 1) := by decide +kernel
theorem d1_27 : decode prog_12_method_10_code 27 = .ok (.goto 4, 3) := by decide +kernel
theorem d1_0 : decode prog_12_method_10_code 0 = .ok (.iconst 0, 1) := by decide +kernel
theorem d1_1 : decode prog_12_method_10_code 1 = .ok (.istore_n 2, 1) := by decide +kernel
theorem d1_2 : decode prog_12_method_10_code 2 = .ok (.iconst 0, 1) := by decide +kernel
theorem d1_3 : decode prog_12_method_10_code 3 = .ok (.istore_n 3, 1) := by decide +kernel
theorem d1_4 : decode prog_12_method_10_code 4 = .ok (.iload_n 3, 1) := by decide +kernel
theorem d1_5 : decode prog_12_method_10_code 5 = .ok (.aload_n 0, 1) := by decide +kernel
theorem d1_6 : decode prog_12_method_10_code 6 = .ok (.arraylength, 1) := by decide +kernel
theorem d1_7 : decode prog_12_method_10_code 7 = .ok (.if_icmp .ge 31, 3) := by decide +kernel
theorem d1_38 : decode prog_12_method_10_code 38 = .ok (.iload_n 2, 1) := by decide +kernel
theorem d1_39 : decode prog_12_method_10_code 39 = .ok (.ireturn, 1) := by decide +kernel
theorem pn_1 : plainName "com/example/estiba/estiba/placement/Bits" = true := by first | (simp [plainName, overriddenIn]; done) | decide +kernel
theorem ef_1 (m : MethodId) (x0 : Addr) (x1 : Addr) : entryFrame m #[(.ref x0), (.ref x1)] 4 = mkF m 0 #[.val (.ref x0), .val (.ref x1), .unset, .unset] [] := by first | (simp [entryFrame, mkF, argsToLocals, Value.category]; done) | rfl
def Q1 (Z : State) (a1 : Addr) (a2 : Addr) (z : Int32) (x0 y0 x1 y1 : Int64) (ka kb : ClassId) (vs us : List Value) (h0 : Heap) (n0 : Nat) (v : Option Value) (h : Heap) (L : List Loc) : Prop := v = some (.int (own_meet z x0 y0 x1 y1)) ∧ Fr n0 L ∧ h = h0
set_option maxRecDepth 65536 in
set_option maxHeartbeats 40000000 in
theorem rm1 (l : Launch) (Z : State) (a0 : Array Value) (hw : ∀ d ∈ tables_1, d.before a0 Z = true) (ws : List Jvm.Cond) (a1 : Addr) (a2 : Addr) (z : Int32) (x0 y0 x1 y1 : Int64) (ka kb : ClassId) (vs us : List Value) (h0 : Heap) (n0 : Nat) (Z0 : n0 ≤ h0.size) (V : Arv Z h0 a1 ka .long z vs (.long 0)) (U : Arv Z h0 a2 kb .long z us (.long 0)) (hz : z = 0 ∨ z = 1 ∨ z = 2) (hx0 : 0 < z → vs.getD 0 (.long 0) = .long x0) (hy0 : 0 < z → us.getD 0 (.long 0) = .long y0) (hx1 : 1 < z → vs.getD 1 (.long 0) = .long x1) (hy1 : 1 < z → us.getD 1 (.long 0) = .long y1) :
    MetFree l (⟨"com/example/estiba/estiba/placement/Bits", "meet", "([J[J)Z"⟩ : MethodName) (head1 (Jvm.Cond.code (⟨"com/example/estiba/estiba/placement/Bits", "meet", "([J[J)Z"⟩ : MethodName) prog_12_method_10_code 4 (some .boolean) :: ws) ({ frames := 0, cells := 0, slots := 0, locals := 0 } : Room)) (fun a U => a = #[(.ref a1), (.ref a2)] ∧ Z.Warmed39 U.vm ∧ U.heap = h0) (fun _ _ _ _ _ => True) (fun _ U o U' => ∃ v L, o = .returned v ∧ Q1 Z a1 a2 z x0 y0 x1 y1 ka kb vs us h0 n0 v U'.heap L ∧ FrameEnd U o U' L ({ frames := 0, cells := 0, slots := 0, locals := 0 } : Room).cells ({ frames := 0, cells := 0, slots := 0, locals := 0 } : Room).slots) := by
  refine MetFree.of_bodySF (plainFor_of_name pn_1) hisR ?_
  intro p e s m args below meth c s₁ Bd hml0 hP hK
  obtain ⟨rfl, hZ, hh⟩ := hP
  have hx := Bd.exec
  have hby := Bd.bytes
  have hml : c.maxLocals = 4 := hml0
  have hown : s.vm.findClass "com/example/estiba/estiba/placement/Bits" = some m.cls := findClass_of_methodNamed Bd.named
  have hnm := (name_of_methodNamed Bd.named Bd.method).1
  have X0 : Stand p l e ({ frames := 0, cells := 0, slots := 0, locals := 0 } : Room) s m #[(.ref a1), (.ref a2)] below meth c s₁ [] 0 0 := Stand.of_body Bd
  have e0 : s₁.heap = h0 := by rw [← hh, Bd.state]; rfl
  have N0 := Fr.nil n0
  have pre0 : ∀ t, Steps p.tables e below (s₁.setTop (mkF m 0 #[.val (.ref a1), .val (.ref a2), .unset, .unset] [])) t → Steps p.tables e below (s₁.setTop (entryFrame m #[(.ref a1), (.ref a2)] 4)) t := fun t k => castTop (ef_1 m a1 a2) k
  obtain ⟨cl, Ar, qc, S, Nn, H, G⟩ := V
  obtain ⟨cu, Au, qu, Su, Nu, Hu, Gu⟩ := U
  have st_1p : ∀ target, Steps p.tables e below (s₁.setTop (mkF m 4 #[.val (.ref a1), .val (.ref a2), .val (.int (0 : Int32)), .val (.int (0 : Int32))] [])) target → Steps p.tables e below (s₁.setTop (mkF m 0 #[.val (.ref a1), .val (.ref a2), .unset, .unset] [])) target := by
    intro target kt
    show Steps p.tables e below (s₁.setTop (mkF m 0 #[.val (.ref a1), .val (.ref a2), .unset, .unset] [])) _
    refine XS.iconst X0.here hx rfl (hb hby d1_0) ?_
    show Steps p.tables e below (s₁.setTop (mkF m 1 #[.val (.ref a1), .val (.ref a2), .unset, .unset] [(.int (0 : Int32))])) _
    refine XS.istoreN X0.here hx rfl (hb hby d1_1) rfl (l' := #[.val (.ref a1), .val (.ref a2), .val (.int (0 : Int32)), .unset]) rfl ?_
    show Steps p.tables e below (s₁.setTop (mkF m 2 #[.val (.ref a1), .val (.ref a2), .val (.int (0 : Int32)), .unset] [])) _
    refine XS.iconst X0.here hx rfl (hb hby d1_2) ?_
    show Steps p.tables e below (s₁.setTop (mkF m 3 #[.val (.ref a1), .val (.ref a2), .val (.int (0 : Int32)), .unset] [(.int (0 : Int32))])) _
    refine XS.istoreN X0.here hx rfl (hb hby d1_3) rfl (l' := #[.val (.ref a1), .val (.ref a2), .val (.int (0 : Int32)), .val (.int (0 : Int32))]) rfl ?_
    exact kt
  rcases hz with rfl | rfl | rfl
  · have hc7_2 : ¬ ((0 : Int32) < (0 : Int32)) := (by decide)
    have st_2p : ∀ target, Steps p.tables e below (s₁.setTop (mkF m 39 #[.val (.ref a1), .val (.ref a2), .val (.int (0 : Int32)), .val (.int (0 : Int32))] [(.int (0 : Int32))])) target → Steps p.tables e below (s₁.setTop (mkF m 4 #[.val (.ref a1), .val (.ref a2), .val (.int (0 : Int32)), .val (.int (0 : Int32))] [])) target := by
      intro target kt
      show Steps p.tables e below (s₁.setTop (mkF m 4 #[.val (.ref a1), .val (.ref a2), .val (.int (0 : Int32)), .val (.int (0 : Int32))] [])) _
      refine XS.iloadN X0.here hx rfl (hb hby d1_4) rfl ?_
      show Steps p.tables e below (s₁.setTop (mkF m 5 #[.val (.ref a1), .val (.ref a2), .val (.int (0 : Int32)), .val (.int (0 : Int32))] [(.int (0 : Int32))])) _
      refine XS.aloadN X0.here hx rfl (hb hby d1_5) rfl rfl ?_
      show Steps p.tables e below (s₁.setTop (mkF m 6 #[.val (.ref a1), .val (.ref a2), .val (.int (0 : Int32)), .val (.int (0 : Int32))] [(.ref a1), (.int (0 : Int32))])) _
      refine X0.arraylength hx (by rw [e0]; exact Ar.1) (State.isArrayOf_alike hZ.alike Ar.2.1) (g := (mkF m 6 #[.val (.ref a1), .val (.ref a2), .val (.int (0 : Int32)), .val (.int (0 : Int32))] [(.ref a1), (.int (0 : Int32))])) rfl rfl (hb hby d1_6) _ ?_
      rw [len_of S Nn]
      show Steps p.tables e below (s₁.setTop (mkF m 7 #[.val (.ref a1), .val (.ref a2), .val (.int (0 : Int32)), .val (.int (0 : Int32))] [(.int (0 : Int32)), (.int (0 : Int32))])) _
      refine XS.icmpYes X0.here hx rfl (pc0 := 7) (pc' := 38) rfl (hb hby d1_7) rfl (flt hc7_2).2.1 (by decide) (by decide) ?_
      show Steps p.tables e below (s₁.setTop (mkF m 38 #[.val (.ref a1), .val (.ref a2), .val (.int (0 : Int32)), .val (.int (0 : Int32))] [])) _
      refine XS.iloadN X0.here hx rfl (hb hby d1_38) rfl ?_
      exact kt
    obtain ⟨fs, hr, hrun, hended, hW, hsame⟩ := X0.leave (v := some (.int (0 : Int32))) (fun h => by rw [Bd.returns] at h; cases h)
    refine ⟨_, _, pre0 _ ?_, hrun, hended, _, _, rfl, ?_, ⟨_, rfl⟩, hW, hsame.mono (by decide) (by decide)⟩
    · show Steps p.tables e below (s₁.setTop (mkF m 0 #[.val (.ref a1), .val (.ref a2), .unset, .unset] [])) _
      refine st_1p _ ?_
      refine st_2p _ ?_
      exact retN X0 hx (t := .boolean) Bd.returns (by simp) (hb hby d1_39) hr
    · show Q1 Z a1 a2 (0 : Int32) x0 y0 x1 y1 ka kb vs us h0 n0 _ s₁.heap _
      rw [e0]
      exact ⟨by simp [own_meet], N0, rfl⟩
  · have hi0 : ¬ ((0 : Int32) < 0 ∨ cl.slots.size ≤ ((0 : Int32)).toNatClampNeg) := inb_of S ⟨by decide, by decide⟩
    have hj0 : ¬ ((0 : Int32) < 0 ∨ cu.slots.size ≤ ((0 : Int32)).toNatClampNeg) := inb_of Su ⟨by decide, by decide⟩
    by_cases c0 : (x0 &&& y0) = 0
    · have hc7_3 : (0 : Int32) < (1 : Int32) := (by decide)
      have hc11_3 : (0 : Int32) = (0 : Int32) := (by decide)
      have hc23_3 : (lcmpW (x0 &&& y0) (0 : Int64)) = (0 : Int32) := (lw_eq _ _).mpr c0
      have st_3p : ∀ target, Steps p.tables e below (s₁.setTop (mkF m 4 #[.val (.ref a1), .val (.ref a2), .val (.int (0 : Int32)), .val (.int ((0 : Int32) + (1 : Int32)))] [])) target → Steps p.tables e below (s₁.setTop (mkF m 4 #[.val (.ref a1), .val (.ref a2), .val (.int (0 : Int32)), .val (.int (0 : Int32))] [])) target := by
        intro target kt
        show Steps p.tables e below (s₁.setTop (mkF m 4 #[.val (.ref a1), .val (.ref a2), .val (.int (0 : Int32)), .val (.int (0 : Int32))] [])) _
        refine XS.iloadN X0.here hx rfl (hb hby d1_4) rfl ?_
        show Steps p.tables e below (s₁.setTop (mkF m 5 #[.val (.ref a1), .val (.ref a2), .val (.int (0 : Int32)), .val (.int (0 : Int32))] [(.int (0 : Int32))])) _
        refine XS.aloadN X0.here hx rfl (hb hby d1_5) rfl rfl ?_
        show Steps p.tables e below (s₁.setTop (mkF m 6 #[.val (.ref a1), .val (.ref a2), .val (.int (0 : Int32)), .val (.int (0 : Int32))] [(.ref a1), (.int (0 : Int32))])) _
        refine X0.arraylength hx (by rw [e0]; exact Ar.1) (State.isArrayOf_alike hZ.alike Ar.2.1) (g := (mkF m 6 #[.val (.ref a1), .val (.ref a2), .val (.int (0 : Int32)), .val (.int (0 : Int32))] [(.ref a1), (.int (0 : Int32))])) rfl rfl (hb hby d1_6) _ ?_
        rw [len_of S Nn]
        show Steps p.tables e below (s₁.setTop (mkF m 7 #[.val (.ref a1), .val (.ref a2), .val (.int (0 : Int32)), .val (.int (0 : Int32))] [(.int (1 : Int32)), (.int (0 : Int32))])) _
        refine XS.icmpNo X0.here hx rfl (hb hby d1_7) rfl (tlt hc7_3).2.1 ?_
        show Steps p.tables e below (s₁.setTop (mkF m 10 #[.val (.ref a1), .val (.ref a2), .val (.int (0 : Int32)), .val (.int (0 : Int32))] [])) _
        refine XS.iloadN X0.here hx rfl (hb hby d1_10) rfl ?_
        show Steps p.tables e below (s₁.setTop (mkF m 11 #[.val (.ref a1), .val (.ref a2), .val (.int (0 : Int32)), .val (.int (0 : Int32))] [(.int (0 : Int32))])) _
        refine XS.ifNo X0.here hx rfl (hb hby d1_11) rfl ((if0 _ _).trans (teq hc11_3).2) ?_
        show Steps p.tables e below (s₁.setTop (mkF m 14 #[.val (.ref a1), .val (.ref a2), .val (.int (0 : Int32)), .val (.int (0 : Int32))] [])) _
        refine XS.aloadN X0.here hx rfl (hb hby d1_14) rfl rfl ?_
        show Steps p.tables e below (s₁.setTop (mkF m 15 #[.val (.ref a1), .val (.ref a2), .val (.int (0 : Int32)), .val (.int (0 : Int32))] [(.ref a1)])) _
        refine XS.iloadN X0.here hx rfl (hb hby d1_15) rfl ?_
        show Steps p.tables e below (s₁.setTop (mkF m 16 #[.val (.ref a1), .val (.ref a2), .val (.int (0 : Int32)), .val (.int (0 : Int32))] [(.int (0 : Int32)), (.ref a1)])) _
        refine X0.laload hx (j := (0 : Int32)) (v := (.long x0)) (by rw [e0]; exact Ar.1) (State.isArrayOf_alike hZ.alike Ar.2.1) Ar.2.2 hi0 (Has.at H hi0 (hx0 (by decide))) (g := (mkF m 16 #[.val (.ref a1), .val (.ref a2), .val (.int (0 : Int32)), .val (.int (0 : Int32))] [(.int (0 : Int32)), (.ref a1)])) rfl rfl (hb hby d1_16) _ ?_
        show Steps p.tables e below (s₁.setTop (mkF m 17 #[.val (.ref a1), .val (.ref a2), .val (.int (0 : Int32)), .val (.int (0 : Int32))] [(.long x0)])) _
        refine XS.aloadN X0.here hx rfl (hb hby d1_17) rfl rfl ?_
        show Steps p.tables e below (s₁.setTop (mkF m 18 #[.val (.ref a1), .val (.ref a2), .val (.int (0 : Int32)), .val (.int (0 : Int32))] [(.ref a2), (.long x0)])) _
        refine XS.iloadN X0.here hx rfl (hb hby d1_18) rfl ?_
        show Steps p.tables e below (s₁.setTop (mkF m 19 #[.val (.ref a1), .val (.ref a2), .val (.int (0 : Int32)), .val (.int (0 : Int32))] [(.int (0 : Int32)), (.ref a2), (.long x0)])) _
        refine X0.laload hx (j := (0 : Int32)) (v := (.long y0)) (by rw [e0]; exact Au.1) (State.isArrayOf_alike hZ.alike Au.2.1) Au.2.2 hj0 (Has.at Hu hj0 (hy0 (by decide))) (g := (mkF m 19 #[.val (.ref a1), .val (.ref a2), .val (.int (0 : Int32)), .val (.int (0 : Int32))] [(.int (0 : Int32)), (.ref a2), (.long x0)])) rfl rfl (hb hby d1_19) _ ?_
        show Steps p.tables e below (s₁.setTop (mkF m 20 #[.val (.ref a1), .val (.ref a2), .val (.int (0 : Int32)), .val (.int (0 : Int32))] [(.long y0), (.long x0)])) _
        refine XS.land X0.here hx rfl (hb hby d1_20) rfl ?_
        show Steps p.tables e below (s₁.setTop (mkF m 21 #[.val (.ref a1), .val (.ref a2), .val (.int (0 : Int32)), .val (.int (0 : Int32))] [(.long (x0 &&& y0))])) _
        refine XS.lconst X0.here hx rfl (hb hby d1_21) ?_
        show Steps p.tables e below (s₁.setTop (mkF m 22 #[.val (.ref a1), .val (.ref a2), .val (.int (0 : Int32)), .val (.int (0 : Int32))] [(.long (0 : Int64)), (.long (x0 &&& y0))])) _
        refine XS.lcmp X0.here hx rfl (hb hby d1_22) rfl ?_
        show Steps p.tables e below (s₁.setTop (mkF m 23 #[.val (.ref a1), .val (.ref a2), .val (.int (0 : Int32)), .val (.int (0 : Int32))] [(.int (lcmpW (x0 &&& y0) (0 : Int64)))])) _
        refine XS.ifYes X0.here hx rfl (pc0 := 23) (pc' := 30) rfl (hb hby d1_23) rfl ((if0 _ _).trans (teq hc23_3).1) (by decide) (by decide) ?_
        show Steps p.tables e below (s₁.setTop (mkF m 30 #[.val (.ref a1), .val (.ref a2), .val (.int (0 : Int32)), .val (.int (0 : Int32))] [])) _
        refine XS.iconst X0.here hx rfl (hb hby d1_30) ?_
        show Steps p.tables e below (s₁.setTop (mkF m 31 #[.val (.ref a1), .val (.ref a2), .val (.int (0 : Int32)), .val (.int (0 : Int32))] [(.int (0 : Int32))])) _
        refine XS.istoreN X0.here hx rfl (hb hby d1_31) rfl (l' := #[.val (.ref a1), .val (.ref a2), .val (.int (0 : Int32)), .val (.int (0 : Int32))]) rfl ?_
        show Steps p.tables e below (s₁.setTop (mkF m 32 #[.val (.ref a1), .val (.ref a2), .val (.int (0 : Int32)), .val (.int (0 : Int32))] [])) _
        refine XS.iinc X0.here hx rfl (hb hby d1_32) rfl (l' := #[.val (.ref a1), .val (.ref a2), .val (.int (0 : Int32)), .val (.int ((0 : Int32) + (1 : Int32)))]) rfl ?_
        show Steps p.tables e below (s₁.setTop (mkF m 35 #[.val (.ref a1), .val (.ref a2), .val (.int (0 : Int32)), .val (.int ((0 : Int32) + (1 : Int32)))] [])) _
        refine XS.goto X0.here hx rfl (pc0 := 35) (pc' := 4) rfl (hb hby d1_35) (by decide) (by decide) ?_
        exact kt
      rw [show ((0 : Int32) + (1 : Int32)) = (1 : Int32) from by decide] at st_3p
      have hc7_4 : ¬ ((1 : Int32) < (1 : Int32)) := (by decide)
      have st_4p : ∀ target, Steps p.tables e below (s₁.setTop (mkF m 39 #[.val (.ref a1), .val (.ref a2), .val (.int (0 : Int32)), .val (.int (1 : Int32))] [(.int (0 : Int32))])) target → Steps p.tables e below (s₁.setTop (mkF m 4 #[.val (.ref a1), .val (.ref a2), .val (.int (0 : Int32)), .val (.int (1 : Int32))] [])) target := by
        intro target kt
        show Steps p.tables e below (s₁.setTop (mkF m 4 #[.val (.ref a1), .val (.ref a2), .val (.int (0 : Int32)), .val (.int (1 : Int32))] [])) _
        refine XS.iloadN X0.here hx rfl (hb hby d1_4) rfl ?_
        show Steps p.tables e below (s₁.setTop (mkF m 5 #[.val (.ref a1), .val (.ref a2), .val (.int (0 : Int32)), .val (.int (1 : Int32))] [(.int (1 : Int32))])) _
        refine XS.aloadN X0.here hx rfl (hb hby d1_5) rfl rfl ?_
        show Steps p.tables e below (s₁.setTop (mkF m 6 #[.val (.ref a1), .val (.ref a2), .val (.int (0 : Int32)), .val (.int (1 : Int32))] [(.ref a1), (.int (1 : Int32))])) _
        refine X0.arraylength hx (by rw [e0]; exact Ar.1) (State.isArrayOf_alike hZ.alike Ar.2.1) (g := (mkF m 6 #[.val (.ref a1), .val (.ref a2), .val (.int (0 : Int32)), .val (.int (1 : Int32))] [(.ref a1), (.int (1 : Int32))])) rfl rfl (hb hby d1_6) _ ?_
        rw [len_of S Nn]
        show Steps p.tables e below (s₁.setTop (mkF m 7 #[.val (.ref a1), .val (.ref a2), .val (.int (0 : Int32)), .val (.int (1 : Int32))] [(.int (1 : Int32)), (.int (1 : Int32))])) _
        refine XS.icmpYes X0.here hx rfl (pc0 := 7) (pc' := 38) rfl (hb hby d1_7) rfl (flt hc7_4).2.1 (by decide) (by decide) ?_
        show Steps p.tables e below (s₁.setTop (mkF m 38 #[.val (.ref a1), .val (.ref a2), .val (.int (0 : Int32)), .val (.int (1 : Int32))] [])) _
        refine XS.iloadN X0.here hx rfl (hb hby d1_38) rfl ?_
        exact kt
      obtain ⟨fs, hr, hrun, hended, hW, hsame⟩ := X0.leave (v := some (.int (0 : Int32))) (fun h => by rw [Bd.returns] at h; cases h)
      refine ⟨_, _, pre0 _ ?_, hrun, hended, _, _, rfl, ?_, ⟨_, rfl⟩, hW, hsame.mono (by decide) (by decide)⟩
      · show Steps p.tables e below (s₁.setTop (mkF m 0 #[.val (.ref a1), .val (.ref a2), .unset, .unset] [])) _
        refine st_1p _ ?_
        refine st_3p _ ?_
        refine st_4p _ ?_
        exact retN X0 hx (t := .boolean) Bd.returns (by simp) (hb hby d1_39) hr
      · show Q1 Z a1 a2 (1 : Int32) x0 y0 x1 y1 ka kb vs us h0 n0 _ s₁.heap _
        rw [e0]
        exact ⟨by simp [own_meet, c0], N0, rfl⟩
    · have hc7_5 : (0 : Int32) < (1 : Int32) := (by decide)
      have hc11_5 : (0 : Int32) = (0 : Int32) := (by decide)
      have hc23_5 : ¬ ((lcmpW (x0 &&& y0) (0 : Int64)) = (0 : Int32)) := fun q => c0 ((lw_eq _ _).mp q)
      have st_5p : ∀ target, Steps p.tables e below (s₁.setTop (mkF m 4 #[.val (.ref a1), .val (.ref a2), .val (.int (1 : Int32)), .val (.int ((0 : Int32) + (1 : Int32)))] [])) target → Steps p.tables e below (s₁.setTop (mkF m 4 #[.val (.ref a1), .val (.ref a2), .val (.int (0 : Int32)), .val (.int (0 : Int32))] [])) target := by
        intro target kt
        show Steps p.tables e below (s₁.setTop (mkF m 4 #[.val (.ref a1), .val (.ref a2), .val (.int (0 : Int32)), .val (.int (0 : Int32))] [])) _
        refine XS.iloadN X0.here hx rfl (hb hby d1_4) rfl ?_
        show Steps p.tables e below (s₁.setTop (mkF m 5 #[.val (.ref a1), .val (.ref a2), .val (.int (0 : Int32)), .val (.int (0 : Int32))] [(.int (0 : Int32))])) _
        refine XS.aloadN X0.here hx rfl (hb hby d1_5) rfl rfl ?_
        show Steps p.tables e below (s₁.setTop (mkF m 6 #[.val (.ref a1), .val (.ref a2), .val (.int (0 : Int32)), .val (.int (0 : Int32))] [(.ref a1), (.int (0 : Int32))])) _
        refine X0.arraylength hx (by rw [e0]; exact Ar.1) (State.isArrayOf_alike hZ.alike Ar.2.1) (g := (mkF m 6 #[.val (.ref a1), .val (.ref a2), .val (.int (0 : Int32)), .val (.int (0 : Int32))] [(.ref a1), (.int (0 : Int32))])) rfl rfl (hb hby d1_6) _ ?_
        rw [len_of S Nn]
        show Steps p.tables e below (s₁.setTop (mkF m 7 #[.val (.ref a1), .val (.ref a2), .val (.int (0 : Int32)), .val (.int (0 : Int32))] [(.int (1 : Int32)), (.int (0 : Int32))])) _
        refine XS.icmpNo X0.here hx rfl (hb hby d1_7) rfl (tlt hc7_5).2.1 ?_
        show Steps p.tables e below (s₁.setTop (mkF m 10 #[.val (.ref a1), .val (.ref a2), .val (.int (0 : Int32)), .val (.int (0 : Int32))] [])) _
        refine XS.iloadN X0.here hx rfl (hb hby d1_10) rfl ?_
        show Steps p.tables e below (s₁.setTop (mkF m 11 #[.val (.ref a1), .val (.ref a2), .val (.int (0 : Int32)), .val (.int (0 : Int32))] [(.int (0 : Int32))])) _
        refine XS.ifNo X0.here hx rfl (hb hby d1_11) rfl ((if0 _ _).trans (teq hc11_5).2) ?_
        show Steps p.tables e below (s₁.setTop (mkF m 14 #[.val (.ref a1), .val (.ref a2), .val (.int (0 : Int32)), .val (.int (0 : Int32))] [])) _
        refine XS.aloadN X0.here hx rfl (hb hby d1_14) rfl rfl ?_
        show Steps p.tables e below (s₁.setTop (mkF m 15 #[.val (.ref a1), .val (.ref a2), .val (.int (0 : Int32)), .val (.int (0 : Int32))] [(.ref a1)])) _
        refine XS.iloadN X0.here hx rfl (hb hby d1_15) rfl ?_
        show Steps p.tables e below (s₁.setTop (mkF m 16 #[.val (.ref a1), .val (.ref a2), .val (.int (0 : Int32)), .val (.int (0 : Int32))] [(.int (0 : Int32)), (.ref a1)])) _
        refine X0.laload hx (j := (0 : Int32)) (v := (.long x0)) (by rw [e0]; exact Ar.1) (State.isArrayOf_alike hZ.alike Ar.2.1) Ar.2.2 hi0 (Has.at H hi0 (hx0 (by decide))) (g := (mkF m 16 #[.val (.ref a1), .val (.ref a2), .val (.int (0 : Int32)), .val (.int (0 : Int32))] [(.int (0 : Int32)), (.ref a1)])) rfl rfl (hb hby d1_16) _ ?_
        show Steps p.tables e below (s₁.setTop (mkF m 17 #[.val (.ref a1), .val (.ref a2), .val (.int (0 : Int32)), .val (.int (0 : Int32))] [(.long x0)])) _
        refine XS.aloadN X0.here hx rfl (hb hby d1_17) rfl rfl ?_
        show Steps p.tables e below (s₁.setTop (mkF m 18 #[.val (.ref a1), .val (.ref a2), .val (.int (0 : Int32)), .val (.int (0 : Int32))] [(.ref a2), (.long x0)])) _
        refine XS.iloadN X0.here hx rfl (hb hby d1_18) rfl ?_
        show Steps p.tables e below (s₁.setTop (mkF m 19 #[.val (.ref a1), .val (.ref a2), .val (.int (0 : Int32)), .val (.int (0 : Int32))] [(.int (0 : Int32)), (.ref a2), (.long x0)])) _
        refine X0.laload hx (j := (0 : Int32)) (v := (.long y0)) (by rw [e0]; exact Au.1) (State.isArrayOf_alike hZ.alike Au.2.1) Au.2.2 hj0 (Has.at Hu hj0 (hy0 (by decide))) (g := (mkF m 19 #[.val (.ref a1), .val (.ref a2), .val (.int (0 : Int32)), .val (.int (0 : Int32))] [(.int (0 : Int32)), (.ref a2), (.long x0)])) rfl rfl (hb hby d1_19) _ ?_
        show Steps p.tables e below (s₁.setTop (mkF m 20 #[.val (.ref a1), .val (.ref a2), .val (.int (0 : Int32)), .val (.int (0 : Int32))] [(.long y0), (.long x0)])) _
        refine XS.land X0.here hx rfl (hb hby d1_20) rfl ?_
        show Steps p.tables e below (s₁.setTop (mkF m 21 #[.val (.ref a1), .val (.ref a2), .val (.int (0 : Int32)), .val (.int (0 : Int32))] [(.long (x0 &&& y0))])) _
        refine XS.lconst X0.here hx rfl (hb hby d1_21) ?_
        show Steps p.tables e below (s₁.setTop (mkF m 22 #[.val (.ref a1), .val (.ref a2), .val (.int (0 : Int32)), .val (.int (0 : Int32))] [(.long (0 : Int64)), (.long (x0 &&& y0))])) _
        refine XS.lcmp X0.here hx rfl (hb hby d1_22) rfl ?_
        show Steps p.tables e below (s₁.setTop (mkF m 23 #[.val (.ref a1), .val (.ref a2), .val (.int (0 : Int32)), .val (.int (0 : Int32))] [(.int (lcmpW (x0 &&& y0) (0 : Int64)))])) _
        refine XS.ifNo X0.here hx rfl (hb hby d1_23) rfl ((if0 _ _).trans (feq hc23_5).1) ?_
        show Steps p.tables e below (s₁.setTop (mkF m 26 #[.val (.ref a1), .val (.ref a2), .val (.int (0 : Int32)), .val (.int (0 : Int32))] [])) _
        refine XS.iconst X0.here hx rfl (hb hby d1_26) ?_
        show Steps p.tables e below (s₁.setTop (mkF m 27 #[.val (.ref a1), .val (.ref a2), .val (.int (0 : Int32)), .val (.int (0 : Int32))] [(.int (1 : Int32))])) _
        refine XS.goto X0.here hx rfl (pc0 := 27) (pc' := 31) rfl (hb hby d1_27) (by decide) (by decide) ?_
        show Steps p.tables e below (s₁.setTop (mkF m 31 #[.val (.ref a1), .val (.ref a2), .val (.int (0 : Int32)), .val (.int (0 : Int32))] [(.int (1 : Int32))])) _
        refine XS.istoreN X0.here hx rfl (hb hby d1_31) rfl (l' := #[.val (.ref a1), .val (.ref a2), .val (.int (1 : Int32)), .val (.int (0 : Int32))]) rfl ?_
        show Steps p.tables e below (s₁.setTop (mkF m 32 #[.val (.ref a1), .val (.ref a2), .val (.int (1 : Int32)), .val (.int (0 : Int32))] [])) _
        refine XS.iinc X0.here hx rfl (hb hby d1_32) rfl (l' := #[.val (.ref a1), .val (.ref a2), .val (.int (1 : Int32)), .val (.int ((0 : Int32) + (1 : Int32)))]) rfl ?_
        show Steps p.tables e below (s₁.setTop (mkF m 35 #[.val (.ref a1), .val (.ref a2), .val (.int (1 : Int32)), .val (.int ((0 : Int32) + (1 : Int32)))] [])) _
        refine XS.goto X0.here hx rfl (pc0 := 35) (pc' := 4) rfl (hb hby d1_35) (by decide) (by decide) ?_
        exact kt
      rw [show ((0 : Int32) + (1 : Int32)) = (1 : Int32) from by decide] at st_5p
      have hc7_6 : ¬ ((1 : Int32) < (1 : Int32)) := (by decide)
      have st_6p : ∀ target, Steps p.tables e below (s₁.setTop (mkF m 39 #[.val (.ref a1), .val (.ref a2), .val (.int (1 : Int32)), .val (.int (1 : Int32))] [(.int (1 : Int32))])) target → Steps p.tables e below (s₁.setTop (mkF m 4 #[.val (.ref a1), .val (.ref a2), .val (.int (1 : Int32)), .val (.int (1 : Int32))] [])) target := by
        intro target kt
        show Steps p.tables e below (s₁.setTop (mkF m 4 #[.val (.ref a1), .val (.ref a2), .val (.int (1 : Int32)), .val (.int (1 : Int32))] [])) _
        refine XS.iloadN X0.here hx rfl (hb hby d1_4) rfl ?_
        show Steps p.tables e below (s₁.setTop (mkF m 5 #[.val (.ref a1), .val (.ref a2), .val (.int (1 : Int32)), .val (.int (1 : Int32))] [(.int (1 : Int32))])) _
        refine XS.aloadN X0.here hx rfl (hb hby d1_5) rfl rfl ?_
        show Steps p.tables e below (s₁.setTop (mkF m 6 #[.val (.ref a1), .val (.ref a2), .val (.int (1 : Int32)), .val (.int (1 : Int32))] [(.ref a1), (.int (1 : Int32))])) _
        refine X0.arraylength hx (by rw [e0]; exact Ar.1) (State.isArrayOf_alike hZ.alike Ar.2.1) (g := (mkF m 6 #[.val (.ref a1), .val (.ref a2), .val (.int (1 : Int32)), .val (.int (1 : Int32))] [(.ref a1), (.int (1 : Int32))])) rfl rfl (hb hby d1_6) _ ?_
        rw [len_of S Nn]
        show Steps p.tables e below (s₁.setTop (mkF m 7 #[.val (.ref a1), .val (.ref a2), .val (.int (1 : Int32)), .val (.int (1 : Int32))] [(.int (1 : Int32)), (.int (1 : Int32))])) _
        refine XS.icmpYes X0.here hx rfl (pc0 := 7) (pc' := 38) rfl (hb hby d1_7) rfl (flt hc7_6).2.1 (by decide) (by decide) ?_
        show Steps p.tables e below (s₁.setTop (mkF m 38 #[.val (.ref a1), .val (.ref a2), .val (.int (1 : Int32)), .val (.int (1 : Int32))] [])) _
        refine XS.iloadN X0.here hx rfl (hb hby d1_38) rfl ?_
        exact kt
      obtain ⟨fs, hr, hrun, hended, hW, hsame⟩ := X0.leave (v := some (.int (1 : Int32))) (fun h => by rw [Bd.returns] at h; cases h)
      refine ⟨_, _, pre0 _ ?_, hrun, hended, _, _, rfl, ?_, ⟨_, rfl⟩, hW, hsame.mono (by decide) (by decide)⟩
      · show Steps p.tables e below (s₁.setTop (mkF m 0 #[.val (.ref a1), .val (.ref a2), .unset, .unset] [])) _
        refine st_1p _ ?_
        refine st_5p _ ?_
        refine st_6p _ ?_
        exact retN X0 hx (t := .boolean) Bd.returns (by simp) (hb hby d1_39) hr
      · show Q1 Z a1 a2 (1 : Int32) x0 y0 x1 y1 ka kb vs us h0 n0 _ s₁.heap _
        rw [e0]
        exact ⟨by simp [own_meet, c0], N0, rfl⟩
  · have hi0 : ¬ ((0 : Int32) < 0 ∨ cl.slots.size ≤ ((0 : Int32)).toNatClampNeg) := inb_of S ⟨by decide, by decide⟩
    have hj0 : ¬ ((0 : Int32) < 0 ∨ cu.slots.size ≤ ((0 : Int32)).toNatClampNeg) := inb_of Su ⟨by decide, by decide⟩
    have hi1 : ¬ ((1 : Int32) < 0 ∨ cl.slots.size ≤ ((1 : Int32)).toNatClampNeg) := inb_of S ⟨by decide, by decide⟩
    have hj1 : ¬ ((1 : Int32) < 0 ∨ cu.slots.size ≤ ((1 : Int32)).toNatClampNeg) := inb_of Su ⟨by decide, by decide⟩
    by_cases c0 : (x0 &&& y0) = 0
    · have hc7_7 : (0 : Int32) < (2 : Int32) := (by decide)
      have hc11_7 : (0 : Int32) = (0 : Int32) := (by decide)
      have hc23_7 : (lcmpW (x0 &&& y0) (0 : Int64)) = (0 : Int32) := (lw_eq _ _).mpr c0
      have st_7p : ∀ target, Steps p.tables e below (s₁.setTop (mkF m 4 #[.val (.ref a1), .val (.ref a2), .val (.int (0 : Int32)), .val (.int ((0 : Int32) + (1 : Int32)))] [])) target → Steps p.tables e below (s₁.setTop (mkF m 4 #[.val (.ref a1), .val (.ref a2), .val (.int (0 : Int32)), .val (.int (0 : Int32))] [])) target := by
        intro target kt
        show Steps p.tables e below (s₁.setTop (mkF m 4 #[.val (.ref a1), .val (.ref a2), .val (.int (0 : Int32)), .val (.int (0 : Int32))] [])) _
        refine XS.iloadN X0.here hx rfl (hb hby d1_4) rfl ?_
        show Steps p.tables e below (s₁.setTop (mkF m 5 #[.val (.ref a1), .val (.ref a2), .val (.int (0 : Int32)), .val (.int (0 : Int32))] [(.int (0 : Int32))])) _
        refine XS.aloadN X0.here hx rfl (hb hby d1_5) rfl rfl ?_
        show Steps p.tables e below (s₁.setTop (mkF m 6 #[.val (.ref a1), .val (.ref a2), .val (.int (0 : Int32)), .val (.int (0 : Int32))] [(.ref a1), (.int (0 : Int32))])) _
        refine X0.arraylength hx (by rw [e0]; exact Ar.1) (State.isArrayOf_alike hZ.alike Ar.2.1) (g := (mkF m 6 #[.val (.ref a1), .val (.ref a2), .val (.int (0 : Int32)), .val (.int (0 : Int32))] [(.ref a1), (.int (0 : Int32))])) rfl rfl (hb hby d1_6) _ ?_
        rw [len_of S Nn]
        show Steps p.tables e below (s₁.setTop (mkF m 7 #[.val (.ref a1), .val (.ref a2), .val (.int (0 : Int32)), .val (.int (0 : Int32))] [(.int (2 : Int32)), (.int (0 : Int32))])) _
        refine XS.icmpNo X0.here hx rfl (hb hby d1_7) rfl (tlt hc7_7).2.1 ?_
        show Steps p.tables e below (s₁.setTop (mkF m 10 #[.val (.ref a1), .val (.ref a2), .val (.int (0 : Int32)), .val (.int (0 : Int32))] [])) _
        refine XS.iloadN X0.here hx rfl (hb hby d1_10) rfl ?_
        show Steps p.tables e below (s₁.setTop (mkF m 11 #[.val (.ref a1), .val (.ref a2), .val (.int (0 : Int32)), .val (.int (0 : Int32))] [(.int (0 : Int32))])) _
        refine XS.ifNo X0.here hx rfl (hb hby d1_11) rfl ((if0 _ _).trans (teq hc11_7).2) ?_
        show Steps p.tables e below (s₁.setTop (mkF m 14 #[.val (.ref a1), .val (.ref a2), .val (.int (0 : Int32)), .val (.int (0 : Int32))] [])) _
        refine XS.aloadN X0.here hx rfl (hb hby d1_14) rfl rfl ?_
        show Steps p.tables e below (s₁.setTop (mkF m 15 #[.val (.ref a1), .val (.ref a2), .val (.int (0 : Int32)), .val (.int (0 : Int32))] [(.ref a1)])) _
        refine XS.iloadN X0.here hx rfl (hb hby d1_15) rfl ?_
        show Steps p.tables e below (s₁.setTop (mkF m 16 #[.val (.ref a1), .val (.ref a2), .val (.int (0 : Int32)), .val (.int (0 : Int32))] [(.int (0 : Int32)), (.ref a1)])) _
        refine X0.laload hx (j := (0 : Int32)) (v := (.long x0)) (by rw [e0]; exact Ar.1) (State.isArrayOf_alike hZ.alike Ar.2.1) Ar.2.2 hi0 (Has.at H hi0 (hx0 (by decide))) (g := (mkF m 16 #[.val (.ref a1), .val (.ref a2), .val (.int (0 : Int32)), .val (.int (0 : Int32))] [(.int (0 : Int32)), (.ref a1)])) rfl rfl (hb hby d1_16) _ ?_
        show Steps p.tables e below (s₁.setTop (mkF m 17 #[.val (.ref a1), .val (.ref a2), .val (.int (0 : Int32)), .val (.int (0 : Int32))] [(.long x0)])) _
        refine XS.aloadN X0.here hx rfl (hb hby d1_17) rfl rfl ?_
        show Steps p.tables e below (s₁.setTop (mkF m 18 #[.val (.ref a1), .val (.ref a2), .val (.int (0 : Int32)), .val (.int (0 : Int32))] [(.ref a2), (.long x0)])) _
        refine XS.iloadN X0.here hx rfl (hb hby d1_18) rfl ?_
        show Steps p.tables e below (s₁.setTop (mkF m 19 #[.val (.ref a1), .val (.ref a2), .val (.int (0 : Int32)), .val (.int (0 : Int32))] [(.int (0 : Int32)), (.ref a2), (.long x0)])) _
        refine X0.laload hx (j := (0 : Int32)) (v := (.long y0)) (by rw [e0]; exact Au.1) (State.isArrayOf_alike hZ.alike Au.2.1) Au.2.2 hj0 (Has.at Hu hj0 (hy0 (by decide))) (g := (mkF m 19 #[.val (.ref a1), .val (.ref a2), .val (.int (0 : Int32)), .val (.int (0 : Int32))] [(.int (0 : Int32)), (.ref a2), (.long x0)])) rfl rfl (hb hby d1_19) _ ?_
        show Steps p.tables e below (s₁.setTop (mkF m 20 #[.val (.ref a1), .val (.ref a2), .val (.int (0 : Int32)), .val (.int (0 : Int32))] [(.long y0), (.long x0)])) _
        refine XS.land X0.here hx rfl (hb hby d1_20) rfl ?_
        show Steps p.tables e below (s₁.setTop (mkF m 21 #[.val (.ref a1), .val (.ref a2), .val (.int (0 : Int32)), .val (.int (0 : Int32))] [(.long (x0 &&& y0))])) _
        refine XS.lconst X0.here hx rfl (hb hby d1_21) ?_
        show Steps p.tables e below (s₁.setTop (mkF m 22 #[.val (.ref a1), .val (.ref a2), .val (.int (0 : Int32)), .val (.int (0 : Int32))] [(.long (0 : Int64)), (.long (x0 &&& y0))])) _
        refine XS.lcmp X0.here hx rfl (hb hby d1_22) rfl ?_
        show Steps p.tables e below (s₁.setTop (mkF m 23 #[.val (.ref a1), .val (.ref a2), .val (.int (0 : Int32)), .val (.int (0 : Int32))] [(.int (lcmpW (x0 &&& y0) (0 : Int64)))])) _
        refine XS.ifYes X0.here hx rfl (pc0 := 23) (pc' := 30) rfl (hb hby d1_23) rfl ((if0 _ _).trans (teq hc23_7).1) (by decide) (by decide) ?_
        show Steps p.tables e below (s₁.setTop (mkF m 30 #[.val (.ref a1), .val (.ref a2), .val (.int (0 : Int32)), .val (.int (0 : Int32))] [])) _
        refine XS.iconst X0.here hx rfl (hb hby d1_30) ?_
        show Steps p.tables e below (s₁.setTop (mkF m 31 #[.val (.ref a1), .val (.ref a2), .val (.int (0 : Int32)), .val (.int (0 : Int32))] [(.int (0 : Int32))])) _
        refine XS.istoreN X0.here hx rfl (hb hby d1_31) rfl (l' := #[.val (.ref a1), .val (.ref a2), .val (.int (0 : Int32)), .val (.int (0 : Int32))]) rfl ?_
        show Steps p.tables e below (s₁.setTop (mkF m 32 #[.val (.ref a1), .val (.ref a2), .val (.int (0 : Int32)), .val (.int (0 : Int32))] [])) _
        refine XS.iinc X0.here hx rfl (hb hby d1_32) rfl (l' := #[.val (.ref a1), .val (.ref a2), .val (.int (0 : Int32)), .val (.int ((0 : Int32) + (1 : Int32)))]) rfl ?_
        show Steps p.tables e below (s₁.setTop (mkF m 35 #[.val (.ref a1), .val (.ref a2), .val (.int (0 : Int32)), .val (.int ((0 : Int32) + (1 : Int32)))] [])) _
        refine XS.goto X0.here hx rfl (pc0 := 35) (pc' := 4) rfl (hb hby d1_35) (by decide) (by decide) ?_
        exact kt
      rw [show ((0 : Int32) + (1 : Int32)) = (1 : Int32) from by decide] at st_7p
      by_cases c1 : (x1 &&& y1) = 0
      · have hc7_8 : (1 : Int32) < (2 : Int32) := (by decide)
        have hc11_8 : (0 : Int32) = (0 : Int32) := (by decide)
        have hc23_8 : (lcmpW (x1 &&& y1) (0 : Int64)) = (0 : Int32) := (lw_eq _ _).mpr c1
        have st_8p : ∀ target, Steps p.tables e below (s₁.setTop (mkF m 4 #[.val (.ref a1), .val (.ref a2), .val (.int (0 : Int32)), .val (.int ((1 : Int32) + (1 : Int32)))] [])) target → Steps p.tables e below (s₁.setTop (mkF m 4 #[.val (.ref a1), .val (.ref a2), .val (.int (0 : Int32)), .val (.int (1 : Int32))] [])) target := by
          intro target kt
          show Steps p.tables e below (s₁.setTop (mkF m 4 #[.val (.ref a1), .val (.ref a2), .val (.int (0 : Int32)), .val (.int (1 : Int32))] [])) _
          refine XS.iloadN X0.here hx rfl (hb hby d1_4) rfl ?_
          show Steps p.tables e below (s₁.setTop (mkF m 5 #[.val (.ref a1), .val (.ref a2), .val (.int (0 : Int32)), .val (.int (1 : Int32))] [(.int (1 : Int32))])) _
          refine XS.aloadN X0.here hx rfl (hb hby d1_5) rfl rfl ?_
          show Steps p.tables e below (s₁.setTop (mkF m 6 #[.val (.ref a1), .val (.ref a2), .val (.int (0 : Int32)), .val (.int (1 : Int32))] [(.ref a1), (.int (1 : Int32))])) _
          refine X0.arraylength hx (by rw [e0]; exact Ar.1) (State.isArrayOf_alike hZ.alike Ar.2.1) (g := (mkF m 6 #[.val (.ref a1), .val (.ref a2), .val (.int (0 : Int32)), .val (.int (1 : Int32))] [(.ref a1), (.int (1 : Int32))])) rfl rfl (hb hby d1_6) _ ?_
          rw [len_of S Nn]
          show Steps p.tables e below (s₁.setTop (mkF m 7 #[.val (.ref a1), .val (.ref a2), .val (.int (0 : Int32)), .val (.int (1 : Int32))] [(.int (2 : Int32)), (.int (1 : Int32))])) _
          refine XS.icmpNo X0.here hx rfl (hb hby d1_7) rfl (tlt hc7_8).2.1 ?_
          show Steps p.tables e below (s₁.setTop (mkF m 10 #[.val (.ref a1), .val (.ref a2), .val (.int (0 : Int32)), .val (.int (1 : Int32))] [])) _
          refine XS.iloadN X0.here hx rfl (hb hby d1_10) rfl ?_
          show Steps p.tables e below (s₁.setTop (mkF m 11 #[.val (.ref a1), .val (.ref a2), .val (.int (0 : Int32)), .val (.int (1 : Int32))] [(.int (0 : Int32))])) _
          refine XS.ifNo X0.here hx rfl (hb hby d1_11) rfl ((if0 _ _).trans (teq hc11_8).2) ?_
          show Steps p.tables e below (s₁.setTop (mkF m 14 #[.val (.ref a1), .val (.ref a2), .val (.int (0 : Int32)), .val (.int (1 : Int32))] [])) _
          refine XS.aloadN X0.here hx rfl (hb hby d1_14) rfl rfl ?_
          show Steps p.tables e below (s₁.setTop (mkF m 15 #[.val (.ref a1), .val (.ref a2), .val (.int (0 : Int32)), .val (.int (1 : Int32))] [(.ref a1)])) _
          refine XS.iloadN X0.here hx rfl (hb hby d1_15) rfl ?_
          show Steps p.tables e below (s₁.setTop (mkF m 16 #[.val (.ref a1), .val (.ref a2), .val (.int (0 : Int32)), .val (.int (1 : Int32))] [(.int (1 : Int32)), (.ref a1)])) _
          refine X0.laload hx (j := (1 : Int32)) (v := (.long x1)) (by rw [e0]; exact Ar.1) (State.isArrayOf_alike hZ.alike Ar.2.1) Ar.2.2 hi1 (Has.at H hi1 (hx1 (by decide))) (g := (mkF m 16 #[.val (.ref a1), .val (.ref a2), .val (.int (0 : Int32)), .val (.int (1 : Int32))] [(.int (1 : Int32)), (.ref a1)])) rfl rfl (hb hby d1_16) _ ?_
          show Steps p.tables e below (s₁.setTop (mkF m 17 #[.val (.ref a1), .val (.ref a2), .val (.int (0 : Int32)), .val (.int (1 : Int32))] [(.long x1)])) _
          refine XS.aloadN X0.here hx rfl (hb hby d1_17) rfl rfl ?_
          show Steps p.tables e below (s₁.setTop (mkF m 18 #[.val (.ref a1), .val (.ref a2), .val (.int (0 : Int32)), .val (.int (1 : Int32))] [(.ref a2), (.long x1)])) _
          refine XS.iloadN X0.here hx rfl (hb hby d1_18) rfl ?_
          show Steps p.tables e below (s₁.setTop (mkF m 19 #[.val (.ref a1), .val (.ref a2), .val (.int (0 : Int32)), .val (.int (1 : Int32))] [(.int (1 : Int32)), (.ref a2), (.long x1)])) _
          refine X0.laload hx (j := (1 : Int32)) (v := (.long y1)) (by rw [e0]; exact Au.1) (State.isArrayOf_alike hZ.alike Au.2.1) Au.2.2 hj1 (Has.at Hu hj1 (hy1 (by decide))) (g := (mkF m 19 #[.val (.ref a1), .val (.ref a2), .val (.int (0 : Int32)), .val (.int (1 : Int32))] [(.int (1 : Int32)), (.ref a2), (.long x1)])) rfl rfl (hb hby d1_19) _ ?_
          show Steps p.tables e below (s₁.setTop (mkF m 20 #[.val (.ref a1), .val (.ref a2), .val (.int (0 : Int32)), .val (.int (1 : Int32))] [(.long y1), (.long x1)])) _
          refine XS.land X0.here hx rfl (hb hby d1_20) rfl ?_
          show Steps p.tables e below (s₁.setTop (mkF m 21 #[.val (.ref a1), .val (.ref a2), .val (.int (0 : Int32)), .val (.int (1 : Int32))] [(.long (x1 &&& y1))])) _
          refine XS.lconst X0.here hx rfl (hb hby d1_21) ?_
          show Steps p.tables e below (s₁.setTop (mkF m 22 #[.val (.ref a1), .val (.ref a2), .val (.int (0 : Int32)), .val (.int (1 : Int32))] [(.long (0 : Int64)), (.long (x1 &&& y1))])) _
          refine XS.lcmp X0.here hx rfl (hb hby d1_22) rfl ?_
          show Steps p.tables e below (s₁.setTop (mkF m 23 #[.val (.ref a1), .val (.ref a2), .val (.int (0 : Int32)), .val (.int (1 : Int32))] [(.int (lcmpW (x1 &&& y1) (0 : Int64)))])) _
          refine XS.ifYes X0.here hx rfl (pc0 := 23) (pc' := 30) rfl (hb hby d1_23) rfl ((if0 _ _).trans (teq hc23_8).1) (by decide) (by decide) ?_
          show Steps p.tables e below (s₁.setTop (mkF m 30 #[.val (.ref a1), .val (.ref a2), .val (.int (0 : Int32)), .val (.int (1 : Int32))] [])) _
          refine XS.iconst X0.here hx rfl (hb hby d1_30) ?_
          show Steps p.tables e below (s₁.setTop (mkF m 31 #[.val (.ref a1), .val (.ref a2), .val (.int (0 : Int32)), .val (.int (1 : Int32))] [(.int (0 : Int32))])) _
          refine XS.istoreN X0.here hx rfl (hb hby d1_31) rfl (l' := #[.val (.ref a1), .val (.ref a2), .val (.int (0 : Int32)), .val (.int (1 : Int32))]) rfl ?_
          show Steps p.tables e below (s₁.setTop (mkF m 32 #[.val (.ref a1), .val (.ref a2), .val (.int (0 : Int32)), .val (.int (1 : Int32))] [])) _
          refine XS.iinc X0.here hx rfl (hb hby d1_32) rfl (l' := #[.val (.ref a1), .val (.ref a2), .val (.int (0 : Int32)), .val (.int ((1 : Int32) + (1 : Int32)))]) rfl ?_
          show Steps p.tables e below (s₁.setTop (mkF m 35 #[.val (.ref a1), .val (.ref a2), .val (.int (0 : Int32)), .val (.int ((1 : Int32) + (1 : Int32)))] [])) _
          refine XS.goto X0.here hx rfl (pc0 := 35) (pc' := 4) rfl (hb hby d1_35) (by decide) (by decide) ?_
          exact kt
        rw [show ((1 : Int32) + (1 : Int32)) = (2 : Int32) from by decide] at st_8p
        have hc7_9 : ¬ ((2 : Int32) < (2 : Int32)) := (by decide)
        have st_9p : ∀ target, Steps p.tables e below (s₁.setTop (mkF m 39 #[.val (.ref a1), .val (.ref a2), .val (.int (0 : Int32)), .val (.int (2 : Int32))] [(.int (0 : Int32))])) target → Steps p.tables e below (s₁.setTop (mkF m 4 #[.val (.ref a1), .val (.ref a2), .val (.int (0 : Int32)), .val (.int (2 : Int32))] [])) target := by
          intro target kt
          show Steps p.tables e below (s₁.setTop (mkF m 4 #[.val (.ref a1), .val (.ref a2), .val (.int (0 : Int32)), .val (.int (2 : Int32))] [])) _
          refine XS.iloadN X0.here hx rfl (hb hby d1_4) rfl ?_
          show Steps p.tables e below (s₁.setTop (mkF m 5 #[.val (.ref a1), .val (.ref a2), .val (.int (0 : Int32)), .val (.int (2 : Int32))] [(.int (2 : Int32))])) _
          refine XS.aloadN X0.here hx rfl (hb hby d1_5) rfl rfl ?_
          show Steps p.tables e below (s₁.setTop (mkF m 6 #[.val (.ref a1), .val (.ref a2), .val (.int (0 : Int32)), .val (.int (2 : Int32))] [(.ref a1), (.int (2 : Int32))])) _
          refine X0.arraylength hx (by rw [e0]; exact Ar.1) (State.isArrayOf_alike hZ.alike Ar.2.1) (g := (mkF m 6 #[.val (.ref a1), .val (.ref a2), .val (.int (0 : Int32)), .val (.int (2 : Int32))] [(.ref a1), (.int (2 : Int32))])) rfl rfl (hb hby d1_6) _ ?_
          rw [len_of S Nn]
          show Steps p.tables e below (s₁.setTop (mkF m 7 #[.val (.ref a1), .val (.ref a2), .val (.int (0 : Int32)), .val (.int (2 : Int32))] [(.int (2 : Int32)), (.int (2 : Int32))])) _
          refine XS.icmpYes X0.here hx rfl (pc0 := 7) (pc' := 38) rfl (hb hby d1_7) rfl (flt hc7_9).2.1 (by decide) (by decide) ?_
          show Steps p.tables e below (s₁.setTop (mkF m 38 #[.val (.ref a1), .val (.ref a2), .val (.int (0 : Int32)), .val (.int (2 : Int32))] [])) _
          refine XS.iloadN X0.here hx rfl (hb hby d1_38) rfl ?_
          exact kt
        obtain ⟨fs, hr, hrun, hended, hW, hsame⟩ := X0.leave (v := some (.int (0 : Int32))) (fun h => by rw [Bd.returns] at h; cases h)
        refine ⟨_, _, pre0 _ ?_, hrun, hended, _, _, rfl, ?_, ⟨_, rfl⟩, hW, hsame.mono (by decide) (by decide)⟩
        · show Steps p.tables e below (s₁.setTop (mkF m 0 #[.val (.ref a1), .val (.ref a2), .unset, .unset] [])) _
          refine st_1p _ ?_
          refine st_7p _ ?_
          refine st_8p _ ?_
          refine st_9p _ ?_
          exact retN X0 hx (t := .boolean) Bd.returns (by simp) (hb hby d1_39) hr
        · show Q1 Z a1 a2 (2 : Int32) x0 y0 x1 y1 ka kb vs us h0 n0 _ s₁.heap _
          rw [e0]
          exact ⟨by simp [own_meet, c0, c1], N0, rfl⟩
      · have hc7_10 : (1 : Int32) < (2 : Int32) := (by decide)
        have hc11_10 : (0 : Int32) = (0 : Int32) := (by decide)
        have hc23_10 : ¬ ((lcmpW (x1 &&& y1) (0 : Int64)) = (0 : Int32)) := fun q => c1 ((lw_eq _ _).mp q)
        have st_10p : ∀ target, Steps p.tables e below (s₁.setTop (mkF m 4 #[.val (.ref a1), .val (.ref a2), .val (.int (1 : Int32)), .val (.int ((1 : Int32) + (1 : Int32)))] [])) target → Steps p.tables e below (s₁.setTop (mkF m 4 #[.val (.ref a1), .val (.ref a2), .val (.int (0 : Int32)), .val (.int (1 : Int32))] [])) target := by
          intro target kt
          show Steps p.tables e below (s₁.setTop (mkF m 4 #[.val (.ref a1), .val (.ref a2), .val (.int (0 : Int32)), .val (.int (1 : Int32))] [])) _
          refine XS.iloadN X0.here hx rfl (hb hby d1_4) rfl ?_
          show Steps p.tables e below (s₁.setTop (mkF m 5 #[.val (.ref a1), .val (.ref a2), .val (.int (0 : Int32)), .val (.int (1 : Int32))] [(.int (1 : Int32))])) _
          refine XS.aloadN X0.here hx rfl (hb hby d1_5) rfl rfl ?_
          show Steps p.tables e below (s₁.setTop (mkF m 6 #[.val (.ref a1), .val (.ref a2), .val (.int (0 : Int32)), .val (.int (1 : Int32))] [(.ref a1), (.int (1 : Int32))])) _
          refine X0.arraylength hx (by rw [e0]; exact Ar.1) (State.isArrayOf_alike hZ.alike Ar.2.1) (g := (mkF m 6 #[.val (.ref a1), .val (.ref a2), .val (.int (0 : Int32)), .val (.int (1 : Int32))] [(.ref a1), (.int (1 : Int32))])) rfl rfl (hb hby d1_6) _ ?_
          rw [len_of S Nn]
          show Steps p.tables e below (s₁.setTop (mkF m 7 #[.val (.ref a1), .val (.ref a2), .val (.int (0 : Int32)), .val (.int (1 : Int32))] [(.int (2 : Int32)), (.int (1 : Int32))])) _
          refine XS.icmpNo X0.here hx rfl (hb hby d1_7) rfl (tlt hc7_10).2.1 ?_
          show Steps p.tables e below (s₁.setTop (mkF m 10 #[.val (.ref a1), .val (.ref a2), .val (.int (0 : Int32)), .val (.int (1 : Int32))] [])) _
          refine XS.iloadN X0.here hx rfl (hb hby d1_10) rfl ?_
          show Steps p.tables e below (s₁.setTop (mkF m 11 #[.val (.ref a1), .val (.ref a2), .val (.int (0 : Int32)), .val (.int (1 : Int32))] [(.int (0 : Int32))])) _
          refine XS.ifNo X0.here hx rfl (hb hby d1_11) rfl ((if0 _ _).trans (teq hc11_10).2) ?_
          show Steps p.tables e below (s₁.setTop (mkF m 14 #[.val (.ref a1), .val (.ref a2), .val (.int (0 : Int32)), .val (.int (1 : Int32))] [])) _
          refine XS.aloadN X0.here hx rfl (hb hby d1_14) rfl rfl ?_
          show Steps p.tables e below (s₁.setTop (mkF m 15 #[.val (.ref a1), .val (.ref a2), .val (.int (0 : Int32)), .val (.int (1 : Int32))] [(.ref a1)])) _
          refine XS.iloadN X0.here hx rfl (hb hby d1_15) rfl ?_
          show Steps p.tables e below (s₁.setTop (mkF m 16 #[.val (.ref a1), .val (.ref a2), .val (.int (0 : Int32)), .val (.int (1 : Int32))] [(.int (1 : Int32)), (.ref a1)])) _
          refine X0.laload hx (j := (1 : Int32)) (v := (.long x1)) (by rw [e0]; exact Ar.1) (State.isArrayOf_alike hZ.alike Ar.2.1) Ar.2.2 hi1 (Has.at H hi1 (hx1 (by decide))) (g := (mkF m 16 #[.val (.ref a1), .val (.ref a2), .val (.int (0 : Int32)), .val (.int (1 : Int32))] [(.int (1 : Int32)), (.ref a1)])) rfl rfl (hb hby d1_16) _ ?_
          show Steps p.tables e below (s₁.setTop (mkF m 17 #[.val (.ref a1), .val (.ref a2), .val (.int (0 : Int32)), .val (.int (1 : Int32))] [(.long x1)])) _
          refine XS.aloadN X0.here hx rfl (hb hby d1_17) rfl rfl ?_
          show Steps p.tables e below (s₁.setTop (mkF m 18 #[.val (.ref a1), .val (.ref a2), .val (.int (0 : Int32)), .val (.int (1 : Int32))] [(.ref a2), (.long x1)])) _
          refine XS.iloadN X0.here hx rfl (hb hby d1_18) rfl ?_
          show Steps p.tables e below (s₁.setTop (mkF m 19 #[.val (.ref a1), .val (.ref a2), .val (.int (0 : Int32)), .val (.int (1 : Int32))] [(.int (1 : Int32)), (.ref a2), (.long x1)])) _
          refine X0.laload hx (j := (1 : Int32)) (v := (.long y1)) (by rw [e0]; exact Au.1) (State.isArrayOf_alike hZ.alike Au.2.1) Au.2.2 hj1 (Has.at Hu hj1 (hy1 (by decide))) (g := (mkF m 19 #[.val (.ref a1), .val (.ref a2), .val (.int (0 : Int32)), .val (.int (1 : Int32))] [(.int (1 : Int32)), (.ref a2), (.long x1)])) rfl rfl (hb hby d1_19) _ ?_
          show Steps p.tables e below (s₁.setTop (mkF m 20 #[.val (.ref a1), .val (.ref a2), .val (.int (0 : Int32)), .val (.int (1 : Int32))] [(.long y1), (.long x1)])) _
          refine XS.land X0.here hx rfl (hb hby d1_20) rfl ?_
          show Steps p.tables e below (s₁.setTop (mkF m 21 #[.val (.ref a1), .val (.ref a2), .val (.int (0 : Int32)), .val (.int (1 : Int32))] [(.long (x1 &&& y1))])) _
          refine XS.lconst X0.here hx rfl (hb hby d1_21) ?_
          show Steps p.tables e below (s₁.setTop (mkF m 22 #[.val (.ref a1), .val (.ref a2), .val (.int (0 : Int32)), .val (.int (1 : Int32))] [(.long (0 : Int64)), (.long (x1 &&& y1))])) _
          refine XS.lcmp X0.here hx rfl (hb hby d1_22) rfl ?_
          show Steps p.tables e below (s₁.setTop (mkF m 23 #[.val (.ref a1), .val (.ref a2), .val (.int (0 : Int32)), .val (.int (1 : Int32))] [(.int (lcmpW (x1 &&& y1) (0 : Int64)))])) _
          refine XS.ifNo X0.here hx rfl (hb hby d1_23) rfl ((if0 _ _).trans (feq hc23_10).1) ?_
          show Steps p.tables e below (s₁.setTop (mkF m 26 #[.val (.ref a1), .val (.ref a2), .val (.int (0 : Int32)), .val (.int (1 : Int32))] [])) _
          refine XS.iconst X0.here hx rfl (hb hby d1_26) ?_
          show Steps p.tables e below (s₁.setTop (mkF m 27 #[.val (.ref a1), .val (.ref a2), .val (.int (0 : Int32)), .val (.int (1 : Int32))] [(.int (1 : Int32))])) _
          refine XS.goto X0.here hx rfl (pc0 := 27) (pc' := 31) rfl (hb hby d1_27) (by decide) (by decide) ?_
          show Steps p.tables e below (s₁.setTop (mkF m 31 #[.val (.ref a1), .val (.ref a2), .val (.int (0 : Int32)), .val (.int (1 : Int32))] [(.int (1 : Int32))])) _
          refine XS.istoreN X0.here hx rfl (hb hby d1_31) rfl (l' := #[.val (.ref a1), .val (.ref a2), .val (.int (1 : Int32)), .val (.int (1 : Int32))]) rfl ?_
          show Steps p.tables e below (s₁.setTop (mkF m 32 #[.val (.ref a1), .val (.ref a2), .val (.int (1 : Int32)), .val (.int (1 : Int32))] [])) _
          refine XS.iinc X0.here hx rfl (hb hby d1_32) rfl (l' := #[.val (.ref a1), .val (.ref a2), .val (.int (1 : Int32)), .val (.int ((1 : Int32) + (1 : Int32)))]) rfl ?_
          show Steps p.tables e below (s₁.setTop (mkF m 35 #[.val (.ref a1), .val (.ref a2), .val (.int (1 : Int32)), .val (.int ((1 : Int32) + (1 : Int32)))] [])) _
          refine XS.goto X0.here hx rfl (pc0 := 35) (pc' := 4) rfl (hb hby d1_35) (by decide) (by decide) ?_
          exact kt
        rw [show ((1 : Int32) + (1 : Int32)) = (2 : Int32) from by decide] at st_10p
        have hc7_11 : ¬ ((2 : Int32) < (2 : Int32)) := (by decide)
        have st_11p : ∀ target, Steps p.tables e below (s₁.setTop (mkF m 39 #[.val (.ref a1), .val (.ref a2), .val (.int (1 : Int32)), .val (.int (2 : Int32))] [(.int (1 : Int32))])) target → Steps p.tables e below (s₁.setTop (mkF m 4 #[.val (.ref a1), .val (.ref a2), .val (.int (1 : Int32)), .val (.int (2 : Int32))] [])) target := by
          intro target kt
          show Steps p.tables e below (s₁.setTop (mkF m 4 #[.val (.ref a1), .val (.ref a2), .val (.int (1 : Int32)), .val (.int (2 : Int32))] [])) _
          refine XS.iloadN X0.here hx rfl (hb hby d1_4) rfl ?_
          show Steps p.tables e below (s₁.setTop (mkF m 5 #[.val (.ref a1), .val (.ref a2), .val (.int (1 : Int32)), .val (.int (2 : Int32))] [(.int (2 : Int32))])) _
          refine XS.aloadN X0.here hx rfl (hb hby d1_5) rfl rfl ?_
          show Steps p.tables e below (s₁.setTop (mkF m 6 #[.val (.ref a1), .val (.ref a2), .val (.int (1 : Int32)), .val (.int (2 : Int32))] [(.ref a1), (.int (2 : Int32))])) _
          refine X0.arraylength hx (by rw [e0]; exact Ar.1) (State.isArrayOf_alike hZ.alike Ar.2.1) (g := (mkF m 6 #[.val (.ref a1), .val (.ref a2), .val (.int (1 : Int32)), .val (.int (2 : Int32))] [(.ref a1), (.int (2 : Int32))])) rfl rfl (hb hby d1_6) _ ?_
          rw [len_of S Nn]
          show Steps p.tables e below (s₁.setTop (mkF m 7 #[.val (.ref a1), .val (.ref a2), .val (.int (1 : Int32)), .val (.int (2 : Int32))] [(.int (2 : Int32)), (.int (2 : Int32))])) _
          refine XS.icmpYes X0.here hx rfl (pc0 := 7) (pc' := 38) rfl (hb hby d1_7) rfl (flt hc7_11).2.1 (by decide) (by decide) ?_
          show Steps p.tables e below (s₁.setTop (mkF m 38 #[.val (.ref a1), .val (.ref a2), .val (.int (1 : Int32)), .val (.int (2 : Int32))] [])) _
          refine XS.iloadN X0.here hx rfl (hb hby d1_38) rfl ?_
          exact kt
        obtain ⟨fs, hr, hrun, hended, hW, hsame⟩ := X0.leave (v := some (.int (1 : Int32))) (fun h => by rw [Bd.returns] at h; cases h)
        refine ⟨_, _, pre0 _ ?_, hrun, hended, _, _, rfl, ?_, ⟨_, rfl⟩, hW, hsame.mono (by decide) (by decide)⟩
        · show Steps p.tables e below (s₁.setTop (mkF m 0 #[.val (.ref a1), .val (.ref a2), .unset, .unset] [])) _
          refine st_1p _ ?_
          refine st_7p _ ?_
          refine st_10p _ ?_
          refine st_11p _ ?_
          exact retN X0 hx (t := .boolean) Bd.returns (by simp) (hb hby d1_39) hr
        · show Q1 Z a1 a2 (2 : Int32) x0 y0 x1 y1 ka kb vs us h0 n0 _ s₁.heap _
          rw [e0]
          exact ⟨by simp [own_meet, c0, c1], N0, rfl⟩
    · have hc7_12 : (0 : Int32) < (2 : Int32) := (by decide)
      have hc11_12 : (0 : Int32) = (0 : Int32) := (by decide)
      have hc23_12 : ¬ ((lcmpW (x0 &&& y0) (0 : Int64)) = (0 : Int32)) := fun q => c0 ((lw_eq _ _).mp q)
      have st_12p : ∀ target, Steps p.tables e below (s₁.setTop (mkF m 4 #[.val (.ref a1), .val (.ref a2), .val (.int (1 : Int32)), .val (.int ((0 : Int32) + (1 : Int32)))] [])) target → Steps p.tables e below (s₁.setTop (mkF m 4 #[.val (.ref a1), .val (.ref a2), .val (.int (0 : Int32)), .val (.int (0 : Int32))] [])) target := by
        intro target kt
        show Steps p.tables e below (s₁.setTop (mkF m 4 #[.val (.ref a1), .val (.ref a2), .val (.int (0 : Int32)), .val (.int (0 : Int32))] [])) _
        refine XS.iloadN X0.here hx rfl (hb hby d1_4) rfl ?_
        show Steps p.tables e below (s₁.setTop (mkF m 5 #[.val (.ref a1), .val (.ref a2), .val (.int (0 : Int32)), .val (.int (0 : Int32))] [(.int (0 : Int32))])) _
        refine XS.aloadN X0.here hx rfl (hb hby d1_5) rfl rfl ?_
        show Steps p.tables e below (s₁.setTop (mkF m 6 #[.val (.ref a1), .val (.ref a2), .val (.int (0 : Int32)), .val (.int (0 : Int32))] [(.ref a1), (.int (0 : Int32))])) _
        refine X0.arraylength hx (by rw [e0]; exact Ar.1) (State.isArrayOf_alike hZ.alike Ar.2.1) (g := (mkF m 6 #[.val (.ref a1), .val (.ref a2), .val (.int (0 : Int32)), .val (.int (0 : Int32))] [(.ref a1), (.int (0 : Int32))])) rfl rfl (hb hby d1_6) _ ?_
        rw [len_of S Nn]
        show Steps p.tables e below (s₁.setTop (mkF m 7 #[.val (.ref a1), .val (.ref a2), .val (.int (0 : Int32)), .val (.int (0 : Int32))] [(.int (2 : Int32)), (.int (0 : Int32))])) _
        refine XS.icmpNo X0.here hx rfl (hb hby d1_7) rfl (tlt hc7_12).2.1 ?_
        show Steps p.tables e below (s₁.setTop (mkF m 10 #[.val (.ref a1), .val (.ref a2), .val (.int (0 : Int32)), .val (.int (0 : Int32))] [])) _
        refine XS.iloadN X0.here hx rfl (hb hby d1_10) rfl ?_
        show Steps p.tables e below (s₁.setTop (mkF m 11 #[.val (.ref a1), .val (.ref a2), .val (.int (0 : Int32)), .val (.int (0 : Int32))] [(.int (0 : Int32))])) _
        refine XS.ifNo X0.here hx rfl (hb hby d1_11) rfl ((if0 _ _).trans (teq hc11_12).2) ?_
        show Steps p.tables e below (s₁.setTop (mkF m 14 #[.val (.ref a1), .val (.ref a2), .val (.int (0 : Int32)), .val (.int (0 : Int32))] [])) _
        refine XS.aloadN X0.here hx rfl (hb hby d1_14) rfl rfl ?_
        show Steps p.tables e below (s₁.setTop (mkF m 15 #[.val (.ref a1), .val (.ref a2), .val (.int (0 : Int32)), .val (.int (0 : Int32))] [(.ref a1)])) _
        refine XS.iloadN X0.here hx rfl (hb hby d1_15) rfl ?_
        show Steps p.tables e below (s₁.setTop (mkF m 16 #[.val (.ref a1), .val (.ref a2), .val (.int (0 : Int32)), .val (.int (0 : Int32))] [(.int (0 : Int32)), (.ref a1)])) _
        refine X0.laload hx (j := (0 : Int32)) (v := (.long x0)) (by rw [e0]; exact Ar.1) (State.isArrayOf_alike hZ.alike Ar.2.1) Ar.2.2 hi0 (Has.at H hi0 (hx0 (by decide))) (g := (mkF m 16 #[.val (.ref a1), .val (.ref a2), .val (.int (0 : Int32)), .val (.int (0 : Int32))] [(.int (0 : Int32)), (.ref a1)])) rfl rfl (hb hby d1_16) _ ?_
        show Steps p.tables e below (s₁.setTop (mkF m 17 #[.val (.ref a1), .val (.ref a2), .val (.int (0 : Int32)), .val (.int (0 : Int32))] [(.long x0)])) _
        refine XS.aloadN X0.here hx rfl (hb hby d1_17) rfl rfl ?_
        show Steps p.tables e below (s₁.setTop (mkF m 18 #[.val (.ref a1), .val (.ref a2), .val (.int (0 : Int32)), .val (.int (0 : Int32))] [(.ref a2), (.long x0)])) _
        refine XS.iloadN X0.here hx rfl (hb hby d1_18) rfl ?_
        show Steps p.tables e below (s₁.setTop (mkF m 19 #[.val (.ref a1), .val (.ref a2), .val (.int (0 : Int32)), .val (.int (0 : Int32))] [(.int (0 : Int32)), (.ref a2), (.long x0)])) _
        refine X0.laload hx (j := (0 : Int32)) (v := (.long y0)) (by rw [e0]; exact Au.1) (State.isArrayOf_alike hZ.alike Au.2.1) Au.2.2 hj0 (Has.at Hu hj0 (hy0 (by decide))) (g := (mkF m 19 #[.val (.ref a1), .val (.ref a2), .val (.int (0 : Int32)), .val (.int (0 : Int32))] [(.int (0 : Int32)), (.ref a2), (.long x0)])) rfl rfl (hb hby d1_19) _ ?_
        show Steps p.tables e below (s₁.setTop (mkF m 20 #[.val (.ref a1), .val (.ref a2), .val (.int (0 : Int32)), .val (.int (0 : Int32))] [(.long y0), (.long x0)])) _
        refine XS.land X0.here hx rfl (hb hby d1_20) rfl ?_
        show Steps p.tables e below (s₁.setTop (mkF m 21 #[.val (.ref a1), .val (.ref a2), .val (.int (0 : Int32)), .val (.int (0 : Int32))] [(.long (x0 &&& y0))])) _
        refine XS.lconst X0.here hx rfl (hb hby d1_21) ?_
        show Steps p.tables e below (s₁.setTop (mkF m 22 #[.val (.ref a1), .val (.ref a2), .val (.int (0 : Int32)), .val (.int (0 : Int32))] [(.long (0 : Int64)), (.long (x0 &&& y0))])) _
        refine XS.lcmp X0.here hx rfl (hb hby d1_22) rfl ?_
        show Steps p.tables e below (s₁.setTop (mkF m 23 #[.val (.ref a1), .val (.ref a2), .val (.int (0 : Int32)), .val (.int (0 : Int32))] [(.int (lcmpW (x0 &&& y0) (0 : Int64)))])) _
        refine XS.ifNo X0.here hx rfl (hb hby d1_23) rfl ((if0 _ _).trans (feq hc23_12).1) ?_
        show Steps p.tables e below (s₁.setTop (mkF m 26 #[.val (.ref a1), .val (.ref a2), .val (.int (0 : Int32)), .val (.int (0 : Int32))] [])) _
        refine XS.iconst X0.here hx rfl (hb hby d1_26) ?_
        show Steps p.tables e below (s₁.setTop (mkF m 27 #[.val (.ref a1), .val (.ref a2), .val (.int (0 : Int32)), .val (.int (0 : Int32))] [(.int (1 : Int32))])) _
        refine XS.goto X0.here hx rfl (pc0 := 27) (pc' := 31) rfl (hb hby d1_27) (by decide) (by decide) ?_
        show Steps p.tables e below (s₁.setTop (mkF m 31 #[.val (.ref a1), .val (.ref a2), .val (.int (0 : Int32)), .val (.int (0 : Int32))] [(.int (1 : Int32))])) _
        refine XS.istoreN X0.here hx rfl (hb hby d1_31) rfl (l' := #[.val (.ref a1), .val (.ref a2), .val (.int (1 : Int32)), .val (.int (0 : Int32))]) rfl ?_
        show Steps p.tables e below (s₁.setTop (mkF m 32 #[.val (.ref a1), .val (.ref a2), .val (.int (1 : Int32)), .val (.int (0 : Int32))] [])) _
        refine XS.iinc X0.here hx rfl (hb hby d1_32) rfl (l' := #[.val (.ref a1), .val (.ref a2), .val (.int (1 : Int32)), .val (.int ((0 : Int32) + (1 : Int32)))]) rfl ?_
        show Steps p.tables e below (s₁.setTop (mkF m 35 #[.val (.ref a1), .val (.ref a2), .val (.int (1 : Int32)), .val (.int ((0 : Int32) + (1 : Int32)))] [])) _
        refine XS.goto X0.here hx rfl (pc0 := 35) (pc' := 4) rfl (hb hby d1_35) (by decide) (by decide) ?_
        exact kt
      rw [show ((0 : Int32) + (1 : Int32)) = (1 : Int32) from by decide] at st_12p
      have hc7_13 : (1 : Int32) < (2 : Int32) := (by decide)
      have hc11_13 : ¬ ((1 : Int32) = (0 : Int32)) := (by decide)
      have st_13p : ∀ target, Steps p.tables e below (s₁.setTop (mkF m 39 #[.val (.ref a1), .val (.ref a2), .val (.int (1 : Int32)), .val (.int (1 : Int32))] [(.int (1 : Int32))])) target → Steps p.tables e below (s₁.setTop (mkF m 4 #[.val (.ref a1), .val (.ref a2), .val (.int (1 : Int32)), .val (.int (1 : Int32))] [])) target := by
        intro target kt
        show Steps p.tables e below (s₁.setTop (mkF m 4 #[.val (.ref a1), .val (.ref a2), .val (.int (1 : Int32)), .val (.int (1 : Int32))] [])) _
        refine XS.iloadN X0.here hx rfl (hb hby d1_4) rfl ?_
        show Steps p.tables e below (s₁.setTop (mkF m 5 #[.val (.ref a1), .val (.ref a2), .val (.int (1 : Int32)), .val (.int (1 : Int32))] [(.int (1 : Int32))])) _
        refine XS.aloadN X0.here hx rfl (hb hby d1_5) rfl rfl ?_
        show Steps p.tables e below (s₁.setTop (mkF m 6 #[.val (.ref a1), .val (.ref a2), .val (.int (1 : Int32)), .val (.int (1 : Int32))] [(.ref a1), (.int (1 : Int32))])) _
        refine X0.arraylength hx (by rw [e0]; exact Ar.1) (State.isArrayOf_alike hZ.alike Ar.2.1) (g := (mkF m 6 #[.val (.ref a1), .val (.ref a2), .val (.int (1 : Int32)), .val (.int (1 : Int32))] [(.ref a1), (.int (1 : Int32))])) rfl rfl (hb hby d1_6) _ ?_
        rw [len_of S Nn]
        show Steps p.tables e below (s₁.setTop (mkF m 7 #[.val (.ref a1), .val (.ref a2), .val (.int (1 : Int32)), .val (.int (1 : Int32))] [(.int (2 : Int32)), (.int (1 : Int32))])) _
        refine XS.icmpNo X0.here hx rfl (hb hby d1_7) rfl (tlt hc7_13).2.1 ?_
        show Steps p.tables e below (s₁.setTop (mkF m 10 #[.val (.ref a1), .val (.ref a2), .val (.int (1 : Int32)), .val (.int (1 : Int32))] [])) _
        refine XS.iloadN X0.here hx rfl (hb hby d1_10) rfl ?_
        show Steps p.tables e below (s₁.setTop (mkF m 11 #[.val (.ref a1), .val (.ref a2), .val (.int (1 : Int32)), .val (.int (1 : Int32))] [(.int (1 : Int32))])) _
        refine XS.ifYes X0.here hx rfl (pc0 := 11) (pc' := 38) rfl (hb hby d1_11) rfl ((if0 _ _).trans (feq hc11_13).2) (by decide) (by decide) ?_
        show Steps p.tables e below (s₁.setTop (mkF m 38 #[.val (.ref a1), .val (.ref a2), .val (.int (1 : Int32)), .val (.int (1 : Int32))] [])) _
        refine XS.iloadN X0.here hx rfl (hb hby d1_38) rfl ?_
        exact kt
      obtain ⟨fs, hr, hrun, hended, hW, hsame⟩ := X0.leave (v := some (.int (1 : Int32))) (fun h => by rw [Bd.returns] at h; cases h)
      refine ⟨_, _, pre0 _ ?_, hrun, hended, _, _, rfl, ?_, ⟨_, rfl⟩, hW, hsame.mono (by decide) (by decide)⟩
      · show Steps p.tables e below (s₁.setTop (mkF m 0 #[.val (.ref a1), .val (.ref a2), .unset, .unset] [])) _
        refine st_1p _ ?_
        refine st_12p _ ?_
        refine st_13p _ ?_
        exact retN X0 hx (t := .boolean) Bd.returns (by simp) (hb hby d1_39) hr
      · show Q1 Z a1 a2 (2 : Int32) x0 y0 x1 y1 ka kb vs us h0 n0 _ s₁.heap _
        rw [e0]
        exact ⟨by simp [own_meet, c0], N0, rfl⟩

theorem pn_0 : plainName "com/example/estiba/estiba/placement/BitsMeetPinLaw" = true := by first | (simp [plainName, overriddenIn]; done) | decide +kernel
theorem pd_0 : parseMethodDescriptor "([J[J)Z" = some ⟨[(.array .long), (.array .long)], some .boolean⟩ := by decide +kernel
theorem ef_0 (m : MethodId) (x0 : Int64) (x1 : Int64) (x2 : Int64) (x3 : Int64) (x4 : Int32) : entryFrame m #[(.long x0), (.long x1), (.long x2), (.long x3), (.int x4)] maxLocals = mkF m 0 #[.val (.long x0), .second, .val (.long x1), .second, .val (.long x2), .second, .val (.long x3), .second, .val (.int x4), .unset, .unset, .unset, .unset, .unset, .unset] [] := by first | (simp [entryFrame, mkF, argsToLocals, Value.category, maxLocals]; done) | rfl
def Q0 (Z : State) (q1 : Int64) (q2 : Int64) (q3 : Int64) (q4 : Int64) (p5 : Int32) (h0 : Heap) (n0 : Nat) (v : Option Value) (h : Heap) (L : List Loc) : Prop := v = some (.int (1 : Int32)) ∧ Fr n0 L
set_option maxRecDepth 65536 in
set_option maxHeartbeats 40000000 in
theorem rm0 (l : Launch) (Z : State) (a0 : Array Value) (hw : ∀ d ∈ tables_1, d.before a0 Z = true) (ws : List Jvm.Cond) (q1 : Int64) (q2 : Int64) (q3 : Int64) (q4 : Int64) (p5 : Int32) (h0 : Heap) (n0 : Nat) (Z0 : n0 ≤ h0.size) :
    MetFree l x (head1 (Jvm.Cond.code x code maxLocals ret :: ws) room_1) (fun a U => a = #[(.long q1), (.long q2), (.long q3), (.long q4), (.int p5)] ∧ Z.Warmed39 U.vm ∧ U.heap = h0) (fun _ _ _ _ _ => True) (fun _ U o U' => ∃ v L, o = .returned v ∧ Q0 Z q1 q2 q3 q4 p5 h0 n0 v U'.heap L ∧ FrameEnd U o U' L room_1.cells room_1.slots) := by
  refine MetFree.of_bodySF (plainFor_of_name pn_0) hisR ?_
  intro p e s m args below meth c s₁ Bd hml0 hP hK
  obtain ⟨rfl, hZ, hh⟩ := hP
  have hx := Bd.exec
  have hby := Bd.bytes
  have hml : c.maxLocals = 15 := hml0
  have hown : s.vm.findClass "com/example/estiba/estiba/placement/BitsMeetPinLaw" = some m.cls := findClass_of_methodNamed Bd.named
  have hnm := (name_of_methodNamed Bd.named Bd.method).1
  have X0 : Stand p l e room_1 s m #[(.long q1), (.long q2), (.long q3), (.long q4), (.int p5)] below meth c s₁ [] 0 0 := Stand.of_body Bd
  have e0 : s₁.heap = h0 := by rw [← hh, Bd.state]; rfl
  have N0 := Fr.nil n0
  have pre0 : ∀ t, Steps p.tables e below (s₁.setTop (mkF m 0 #[.val (.long q1), .second, .val (.long q2), .second, .val (.long q3), .second, .val (.long q4), .second, .val (.int p5), .unset, .unset, .unset, .unset, .unset, .unset] [])) t → Steps p.tables e below (s₁.setTop (entryFrame m #[(.long q1), (.long q2), (.long q3), (.long q4), (.int p5)] maxLocals)) t := fun t k => castTop (ef_0 m q1 q2 q3 q4 p5) k
  have hy6_1 : (3 : Int32) ≠ 0 := (by decide)
  have st_1p : ∀ target, Steps p.tables e below (s₁.setTop (mkF m 9 #[.val (.long q1), .second, .val (.long q2), .second, .val (.long q3), .second, .val (.long q4), .second, .val (.int p5), .val (.int (own_rem (p5 &&& (2147483647 : Int32)) (3 : Int32))), .unset, .unset, .unset, .unset, .unset] [])) target → Steps p.tables e below (s₁.setTop (mkF m 0 #[.val (.long q1), .second, .val (.long q2), .second, .val (.long q3), .second, .val (.long q4), .second, .val (.int p5), .unset, .unset, .unset, .unset, .unset, .unset] [])) target := by
    intro target kt
    show Steps p.tables e below (s₁.setTop (mkF m 0 #[.val (.long q1), .second, .val (.long q2), .second, .val (.long q3), .second, .val (.long q4), .second, .val (.int p5), .unset, .unset, .unset, .unset, .unset, .unset] [])) _
    refine XS.iload X0.here hx rfl (hb hby at_0) rfl ?_
    show Steps p.tables e below (s₁.setTop (mkF m 2 #[.val (.long q1), .second, .val (.long q2), .second, .val (.long q3), .second, .val (.long q4), .second, .val (.int p5), .unset, .unset, .unset, .unset, .unset, .unset] [(.int p5)])) _
    refine X0.ldcInt hx hown (mvT hZ (hw _ (List.mem_of_getElem? (i := 0) rfl))) (g := (mkF m 2 #[.val (.long q1), .second, .val (.long q2), .second, .val (.long q3), .second, .val (.long q4), .second, .val (.int p5), .unset, .unset, .unset, .unset, .unset, .unset] [(.int p5)])) rfl (hb hby at_2) _ ?_
    show Steps p.tables e below (s₁.setTop (mkF m 4 #[.val (.long q1), .second, .val (.long q2), .second, .val (.long q3), .second, .val (.long q4), .second, .val (.int p5), .unset, .unset, .unset, .unset, .unset, .unset] [(.int (2147483647 : Int32)), (.int p5)])) _
    refine XS.iand X0.here hx rfl (hb hby at_4) rfl ?_
    show Steps p.tables e below (s₁.setTop (mkF m 5 #[.val (.long q1), .second, .val (.long q2), .second, .val (.long q3), .second, .val (.long q4), .second, .val (.int p5), .unset, .unset, .unset, .unset, .unset, .unset] [(.int (p5 &&& (2147483647 : Int32)))])) _
    refine XS.iconst X0.here hx rfl (hb hby at_5) ?_
    show Steps p.tables e below (s₁.setTop (mkF m 6 #[.val (.long q1), .second, .val (.long q2), .second, .val (.long q3), .second, .val (.long q4), .second, .val (.int p5), .unset, .unset, .unset, .unset, .unset, .unset] [(.int (3 : Int32)), (.int (p5 &&& (2147483647 : Int32)))])) _
    refine XS.irem X0.here hx rfl (hb hby at_6) rfl hy6_1 ?_
    show Steps p.tables e below (s₁.setTop (mkF m 7 #[.val (.long q1), .second, .val (.long q2), .second, .val (.long q3), .second, .val (.long q4), .second, .val (.int p5), .unset, .unset, .unset, .unset, .unset, .unset] [(.int (own_rem (p5 &&& (2147483647 : Int32)) (3 : Int32)))])) _
    refine XS.istore X0.here hx rfl (hb hby at_7) rfl (l' := #[.val (.long q1), .second, .val (.long q2), .second, .val (.long q3), .second, .val (.long q4), .second, .val (.int p5), .val (.int (own_rem (p5 &&& (2147483647 : Int32)) (3 : Int32))), .unset, .unset, .unset, .unset, .unset]) rfl ?_
    exact kt
  obtain ⟨n, en⟩ : ∃ z : Int32, z = own_rem (p5 &&& (2147483647 : Int32)) (3 : Int32) := ⟨_, rfl⟩
  rw [← en] at st_1p
  have hn : n = 0 ∨ n = 1 ∨ n = 2 := by rw [en]; exact own_three _
  clear en
  rcases hn with rfl | rfl | rfl
  · have hc24_2 : (0 : Int32) < (1 : Int32) := (by decide)
    have hc41_2 : (0 : Int32) < (2 : Int32) := (by decide)
    obtain ⟨T6_2, h6_2, k6_2, X6_2, e6_2, E6_2, A6_2, st6_2⟩ := newP X0 hx hZ (hw _ (List.mem_of_getElem? (i := 1) rfl)) e0 (g := (mkF m 11 #[.val (.long q1), .second, .val (.long q2), .second, .val (.long q3), .second, .val (.long q4), .second, .val (.int p5), .val (.int (0 : Int32)), .unset, .unset, .unset, .unset, .unset] [(.int (0 : Int32))])) rfl (hb hby at_11) rfl (by decide) (cap := 0) (by decide) (by decide) (by decide) (by decide)
    obtain ⟨b6_2, g6_2⟩ : ∃ z, z = h0.size := ⟨_, rfl⟩
    rw [← g6_2] at A6_2 st6_2
    have V_b6_2 : Arv Z h6_2 b6_2 k6_2 .long (0 : Int32) [] (.long 0) := (Arv.new A6_2 (by decide)).pad (pad_rep [] (.long 0) 0)
    have g_b6_2 : n0 ≤ b6_2 := Nat.le_trans Z0 (Nat.le_of_eq g6_2.symm)
    have sz_b6_2 : h0.size ≤ b6_2 := (Nat.le_trans (Keep.refl h0 []).1 (Nat.le_of_eq g6_2.symm))
    have K6_2 : Keep h0 h6_2 [] := (Keep.refl h0 []).ext E6_2
    obtain ⟨T7_2, h7_2, k7_2, X7_2, e7_2, E7_2, A7_2, st7_2⟩ := newP X6_2 hx hZ (hw _ (List.mem_of_getElem? (i := 1) rfl)) e6_2 (g := (mkF m 17 #[.val (.long q1), .second, .val (.long q2), .second, .val (.long q3), .second, .val (.long q4), .second, .val (.int p5), .val (.int (0 : Int32)), .val (.ref b6_2), .unset, .unset, .unset, .unset] [(.int (0 : Int32))])) rfl (hb hby at_17) rfl (by decide) (cap := 0) (by decide) (by decide) (by decide) (by decide)
    obtain ⟨b7_2, g7_2⟩ : ∃ z, z = h6_2.size := ⟨_, rfl⟩
    rw [← g7_2] at A7_2 st7_2
    have V_b7_2 : Arv Z h7_2 b7_2 k7_2 .long (0 : Int32) [] (.long 0) := (Arv.new A7_2 (by decide)).pad (pad_rep [] (.long 0) 0)
    have g_b7_2 : n0 ≤ b7_2 := Nat.le_trans (Nat.le_trans Z0 E6_2.1) (Nat.le_of_eq g7_2.symm)
    have sz_b7_2 : h0.size ≤ b7_2 := (Nat.le_trans K6_2.1 (Nat.le_of_eq g7_2.symm))
    have K7_2 : Keep h0 h7_2 [] := K6_2.ext E7_2
    have st_2p : ∀ target, Steps p.tables e below (T7_2.setTop (mkF m 55 #[.val (.long q1), .second, .val (.long q2), .second, .val (.long q3), .second, .val (.long q4), .second, .val (.int p5), .val (.int (0 : Int32)), .val (.ref b6_2), .val (.ref b7_2), .unset, .unset, .unset] [])) target → Steps p.tables e below (s₁.setTop (mkF m 9 #[.val (.long q1), .second, .val (.long q2), .second, .val (.long q3), .second, .val (.long q4), .second, .val (.int p5), .val (.int (0 : Int32)), .unset, .unset, .unset, .unset, .unset] [])) target := by
      intro target kt
      show Steps p.tables e below (s₁.setTop (mkF m 9 #[.val (.long q1), .second, .val (.long q2), .second, .val (.long q3), .second, .val (.long q4), .second, .val (.int p5), .val (.int (0 : Int32)), .unset, .unset, .unset, .unset, .unset] [])) _
      refine XS.iload X0.here hx rfl (hb hby at_9) rfl ?_
      show Steps p.tables e below (s₁.setTop (mkF m 11 #[.val (.long q1), .second, .val (.long q2), .second, .val (.long q3), .second, .val (.long q4), .second, .val (.int p5), .val (.int (0 : Int32)), .unset, .unset, .unset, .unset, .unset] [(.int (0 : Int32))])) _
      refine st6_2 _ ?_
      show Steps p.tables e below (T6_2.setTop (mkF m 13 #[.val (.long q1), .second, .val (.long q2), .second, .val (.long q3), .second, .val (.long q4), .second, .val (.int p5), .val (.int (0 : Int32)), .unset, .unset, .unset, .unset, .unset] [(.ref b6_2)])) _
      refine XS.astore X6_2.here hx rfl (hb hby at_13) rfl rfl (l' := #[.val (.long q1), .second, .val (.long q2), .second, .val (.long q3), .second, .val (.long q4), .second, .val (.int p5), .val (.int (0 : Int32)), .val (.ref b6_2), .unset, .unset, .unset, .unset]) rfl ?_
      show Steps p.tables e below (T6_2.setTop (mkF m 15 #[.val (.long q1), .second, .val (.long q2), .second, .val (.long q3), .second, .val (.long q4), .second, .val (.int p5), .val (.int (0 : Int32)), .val (.ref b6_2), .unset, .unset, .unset, .unset] [])) _
      refine XS.iload X6_2.here hx rfl (hb hby at_15) rfl ?_
      show Steps p.tables e below (T6_2.setTop (mkF m 17 #[.val (.long q1), .second, .val (.long q2), .second, .val (.long q3), .second, .val (.long q4), .second, .val (.int p5), .val (.int (0 : Int32)), .val (.ref b6_2), .unset, .unset, .unset, .unset] [(.int (0 : Int32))])) _
      refine st7_2 _ ?_
      show Steps p.tables e below (T7_2.setTop (mkF m 19 #[.val (.long q1), .second, .val (.long q2), .second, .val (.long q3), .second, .val (.long q4), .second, .val (.int p5), .val (.int (0 : Int32)), .val (.ref b6_2), .unset, .unset, .unset, .unset] [(.ref b7_2)])) _
      refine XS.astore X7_2.here hx rfl (hb hby at_19) rfl rfl (l' := #[.val (.long q1), .second, .val (.long q2), .second, .val (.long q3), .second, .val (.long q4), .second, .val (.int p5), .val (.int (0 : Int32)), .val (.ref b6_2), .val (.ref b7_2), .unset, .unset, .unset]) rfl ?_
      show Steps p.tables e below (T7_2.setTop (mkF m 21 #[.val (.long q1), .second, .val (.long q2), .second, .val (.long q3), .second, .val (.long q4), .second, .val (.int p5), .val (.int (0 : Int32)), .val (.ref b6_2), .val (.ref b7_2), .unset, .unset, .unset] [])) _
      refine XS.iload X7_2.here hx rfl (hb hby at_21) rfl ?_
      show Steps p.tables e below (T7_2.setTop (mkF m 23 #[.val (.long q1), .second, .val (.long q2), .second, .val (.long q3), .second, .val (.long q4), .second, .val (.int p5), .val (.int (0 : Int32)), .val (.ref b6_2), .val (.ref b7_2), .unset, .unset, .unset] [(.int (0 : Int32))])) _
      refine XS.iconst X7_2.here hx rfl (hb hby at_23) ?_
      show Steps p.tables e below (T7_2.setTop (mkF m 24 #[.val (.long q1), .second, .val (.long q2), .second, .val (.long q3), .second, .val (.long q4), .second, .val (.int p5), .val (.int (0 : Int32)), .val (.ref b6_2), .val (.ref b7_2), .unset, .unset, .unset] [(.int (1 : Int32)), (.int (0 : Int32))])) _
      refine XS.icmpYes X7_2.here hx rfl (pc0 := 24) (pc' := 38) rfl (hb hby at_24) rfl (tlt hc24_2).1 (by decide) (by decide) ?_
      show Steps p.tables e below (T7_2.setTop (mkF m 38 #[.val (.long q1), .second, .val (.long q2), .second, .val (.long q3), .second, .val (.long q4), .second, .val (.int p5), .val (.int (0 : Int32)), .val (.ref b6_2), .val (.ref b7_2), .unset, .unset, .unset] [])) _
      refine XS.iload X7_2.here hx rfl (hb hby at_38) rfl ?_
      show Steps p.tables e below (T7_2.setTop (mkF m 40 #[.val (.long q1), .second, .val (.long q2), .second, .val (.long q3), .second, .val (.long q4), .second, .val (.int p5), .val (.int (0 : Int32)), .val (.ref b6_2), .val (.ref b7_2), .unset, .unset, .unset] [(.int (0 : Int32))])) _
      refine XS.iconst X7_2.here hx rfl (hb hby at_40) ?_
      show Steps p.tables e below (T7_2.setTop (mkF m 41 #[.val (.long q1), .second, .val (.long q2), .second, .val (.long q3), .second, .val (.long q4), .second, .val (.int p5), .val (.int (0 : Int32)), .val (.ref b6_2), .val (.ref b7_2), .unset, .unset, .unset] [(.int (2 : Int32)), (.int (0 : Int32))])) _
      refine XS.icmpYes X7_2.here hx rfl (pc0 := 41) (pc' := 55) rfl (hb hby at_41) rfl (tlt hc41_2).1 (by decide) (by decide) ?_
      exact kt
    have Va : Arv Z h7_2 b6_2 k6_2 .long (0 : Int32) [] (.long 0) := V_b6_2.ext E7_2
    have Vb : Arv Z h7_2 b7_2 k7_2 .long (0 : Int32) [] (.long 0) := V_b7_2
    have Zc : n0 ≤ h7_2.size := Nat.le_trans Z0 K7_2.1
    obtain ⟨ex, hex, st_4p⟩ : ∃ (ex : Int32), (ex = own_meet (0 : Int32) q1 q3 q2 q4) ∧ ∀ target, Steps p.tables e below (T7_2.setTop (mkF m 92 #[.val (.long q1), .second, .val (.long q2), .second, .val (.long q3), .second, .val (.long q4), .second, .val (.int p5), .val (.int (0 : Int32)), .val (.ref b6_2), .val (.ref b7_2), .val (.int ex), .unset, .unset] [])) target → Steps p.tables e below (T7_2.setTop (mkF m 55 #[.val (.long q1), .second, .val (.long q2), .second, .val (.long q3), .second, .val (.long q4), .second, .val (.int p5), .val (.int (0 : Int32)), .val (.ref b6_2), .val (.ref b7_2), .unset, .unset, .unset] [])) target := by
      by_cases hc58 : (0 : Int32) < (1 : Int32)
      · by_cases hc73 : (0 : Int32) < (2 : Int32)
        · refine ⟨(0 : Int32), by simp [own_meet], fun target kt => ?_⟩
          show Steps p.tables e below (T7_2.setTop (mkF m 55 #[.val (.long q1), .second, .val (.long q2), .second, .val (.long q3), .second, .val (.long q4), .second, .val (.int p5), .val (.int (0 : Int32)), .val (.ref b6_2), .val (.ref b7_2), .unset, .unset, .unset] [])) _
          refine XS.iload X7_2.here hx rfl (hb hby at_55) rfl ?_
          show Steps p.tables e below (T7_2.setTop (mkF m 57 #[.val (.long q1), .second, .val (.long q2), .second, .val (.long q3), .second, .val (.long q4), .second, .val (.int p5), .val (.int (0 : Int32)), .val (.ref b6_2), .val (.ref b7_2), .unset, .unset, .unset] [(.int (0 : Int32))])) _
          refine XS.iconst X7_2.here hx rfl (hb hby at_57) ?_
          show Steps p.tables e below (T7_2.setTop (mkF m 58 #[.val (.long q1), .second, .val (.long q2), .second, .val (.long q3), .second, .val (.long q4), .second, .val (.int p5), .val (.int (0 : Int32)), .val (.ref b6_2), .val (.ref b7_2), .unset, .unset, .unset] [(.int (1 : Int32)), (.int (0 : Int32))])) _
          refine XS.icmpYes X7_2.here hx rfl (pc0 := 58) (pc' := 70) rfl (hb hby at_58) rfl (tlt hc58).1 (by decide) (by decide) ?_
          show Steps p.tables e below (T7_2.setTop (mkF m 70 #[.val (.long q1), .second, .val (.long q2), .second, .val (.long q3), .second, .val (.long q4), .second, .val (.int p5), .val (.int (0 : Int32)), .val (.ref b6_2), .val (.ref b7_2), .unset, .unset, .unset] [])) _
          refine XS.iload X7_2.here hx rfl (hb hby at_70) rfl ?_
          show Steps p.tables e below (T7_2.setTop (mkF m 72 #[.val (.long q1), .second, .val (.long q2), .second, .val (.long q3), .second, .val (.long q4), .second, .val (.int p5), .val (.int (0 : Int32)), .val (.ref b6_2), .val (.ref b7_2), .unset, .unset, .unset] [(.int (0 : Int32))])) _
          refine XS.iconst X7_2.here hx rfl (hb hby at_72) ?_
          show Steps p.tables e below (T7_2.setTop (mkF m 73 #[.val (.long q1), .second, .val (.long q2), .second, .val (.long q3), .second, .val (.long q4), .second, .val (.int p5), .val (.int (0 : Int32)), .val (.ref b6_2), .val (.ref b7_2), .unset, .unset, .unset] [(.int (2 : Int32)), (.int (0 : Int32))])) _
          refine XS.icmpYes X7_2.here hx rfl (pc0 := 73) (pc' := 89) rfl (hb hby at_73) rfl (tlt hc73).1 (by decide) (by decide) ?_
          show Steps p.tables e below (T7_2.setTop (mkF m 89 #[.val (.long q1), .second, .val (.long q2), .second, .val (.long q3), .second, .val (.long q4), .second, .val (.int p5), .val (.int (0 : Int32)), .val (.ref b6_2), .val (.ref b7_2), .unset, .unset, .unset] [])) _
          refine XS.iconst X7_2.here hx rfl (hb hby at_89) ?_
          show Steps p.tables e below (T7_2.setTop (mkF m 90 #[.val (.long q1), .second, .val (.long q2), .second, .val (.long q3), .second, .val (.long q4), .second, .val (.int p5), .val (.int (0 : Int32)), .val (.ref b6_2), .val (.ref b7_2), .unset, .unset, .unset] [(.int (0 : Int32))])) _
          refine XS.istore X7_2.here hx rfl (hb hby at_90) rfl (l' := #[.val (.long q1), .second, .val (.long q2), .second, .val (.long q3), .second, .val (.long q4), .second, .val (.int p5), .val (.int (0 : Int32)), .val (.ref b6_2), .val (.ref b7_2), .val (.int (0 : Int32)), .unset, .unset]) rfl ?_
          exact kt
        · exact absurd (by decide) hc73
      · exact absurd (by decide) hc58
    obtain ⟨_, _, ⟨T6_5, L6_5, k6_5, n6_5⟩, -, X6_5, ⟨Lc6_5, hQ6_5, l6_5, y6_5, z6_5⟩, st6_5⟩ := Jvm.LawKit.callS X7_2 hx (y := (⟨"com/example/estiba/estiba/placement/Bits", "meet", "([J[J)Z"⟩ : MethodName)) hown (mvT hZ (hw _ (List.mem_of_getElem? (i := 2) rfl))) (mvT hZ (hw _ (List.mem_of_getElem? (i := 3) rfl))) (mvT hZ (hw _ (List.mem_of_getElem? (i := 4) rfl))) (mvT hZ (hw _ (List.mem_of_getElem? (i := 5) rfl))) (by decide) (backOf (W := 0) (rm1 l Z a0 hw [] b6_2 b7_2 (0 : Int32) q1 q3 q2 q4 _ _ _ _ h7_2 n0 Zc Va Vb (Or.inl rfl) (fun q => absurd q (by decide)) (fun q => absurd q (by decide)) (fun q => absurd q (by decide)) (fun q => absurd q (by decide))) hZ (hw _ (List.mem_of_getElem? (i := 5) rfl)) (hw _ (List.mem_of_getElem? (i := 4) rfl)) (by decide) (by decide)) (g := (mkF m 96 #[.val (.long q1), .second, .val (.long q2), .second, .val (.long q3), .second, .val (.long q4), .second, .val (.int p5), .val (.int (0 : Int32)), .val (.ref b6_2), .val (.ref b7_2), .val (.int ex), .unset, .unset] [(.ref b7_2), (.ref b6_2)])) rfl (by rw [hml]; rfl) (argsL := [(.ref b6_2), (.ref b7_2)]) (rest := []) (lenOf pd_0 rfl) rfl (by show 2 * 0 + _ ≤ _; exact Nat.le_of_eq rfl) (hb hby at_96) (fun _ _ => ⟨rfl, e7_2, (by decide : 0 + 2 + 0 ≤ _), (by decide : 0 + 0 + 0 ≤ _)⟩)
    dsimp only [Pt.U, Pt.locs, Pt.cells, Pt.slots] at X6_5 l6_5 y6_5 z6_5 st6_5 hQ6_5
    subst l6_5 y6_5 z6_5
    obtain ⟨rfl, N6q_5, gq_5⟩ := hQ6_5
    have N6_5 := Fr.app N0 N6q_5
    have st_5p : ∀ target, Steps p.tables e below (T6_5.setTop (mkF m 101 #[.val (.long q1), .second, .val (.long q2), .second, .val (.long q3), .second, .val (.long q4), .second, .val (.int p5), .val (.int (0 : Int32)), .val (.ref b6_2), .val (.ref b7_2), .val (.int ex), .val (.int (own_meet (0 : Int32) q1 q3 q2 q4)), .unset] [])) target → Steps p.tables e below (T7_2.setTop (mkF m 92 #[.val (.long q1), .second, .val (.long q2), .second, .val (.long q3), .second, .val (.long q4), .second, .val (.int p5), .val (.int (0 : Int32)), .val (.ref b6_2), .val (.ref b7_2), .val (.int ex), .unset, .unset] [])) target := by
      intro target kt
      show Steps p.tables e below (T7_2.setTop (mkF m 92 #[.val (.long q1), .second, .val (.long q2), .second, .val (.long q3), .second, .val (.long q4), .second, .val (.int p5), .val (.int (0 : Int32)), .val (.ref b6_2), .val (.ref b7_2), .val (.int ex), .unset, .unset] [])) _
      refine XS.aload X7_2.here hx rfl (hb hby at_92) rfl rfl ?_
      show Steps p.tables e below (T7_2.setTop (mkF m 94 #[.val (.long q1), .second, .val (.long q2), .second, .val (.long q3), .second, .val (.long q4), .second, .val (.int p5), .val (.int (0 : Int32)), .val (.ref b6_2), .val (.ref b7_2), .val (.int ex), .unset, .unset] [(.ref b6_2)])) _
      refine XS.aload X7_2.here hx rfl (hb hby at_94) rfl rfl ?_
      show Steps p.tables e below (T7_2.setTop (mkF m 96 #[.val (.long q1), .second, .val (.long q2), .second, .val (.long q3), .second, .val (.long q4), .second, .val (.int p5), .val (.int (0 : Int32)), .val (.ref b6_2), .val (.ref b7_2), .val (.int ex), .unset, .unset] [(.ref b7_2), (.ref b6_2)])) _
      refine st6_5 _ ?_
      show Steps p.tables e below (T6_5.setTop (mkF m 99 #[.val (.long q1), .second, .val (.long q2), .second, .val (.long q3), .second, .val (.long q4), .second, .val (.int p5), .val (.int (0 : Int32)), .val (.ref b6_2), .val (.ref b7_2), .val (.int ex), .unset, .unset] [(.int (own_meet (0 : Int32) q1 q3 q2 q4))])) _
      refine XS.istore X6_5.here hx rfl (hb hby at_99) rfl (l' := #[.val (.long q1), .second, .val (.long q2), .second, .val (.long q3), .second, .val (.long q4), .second, .val (.int p5), .val (.int (0 : Int32)), .val (.ref b6_2), .val (.ref b7_2), .val (.int ex), .val (.int (own_meet (0 : Int32) q1 q3 q2 q4)), .unset]) rfl ?_
      exact kt
    have hc104_6 : (0 : Int32) < (1 : Int32) := (by decide)
    have hc129_6 : (0 : Int32) < (2 : Int32) := (by decide)
    have st_6p : ∀ target, Steps p.tables e below (T6_5.setTop (mkF m 158 #[.val (.long q1), .second, .val (.long q2), .second, .val (.long q3), .second, .val (.long q4), .second, .val (.int p5), .val (.int (0 : Int32)), .val (.ref b6_2), .val (.ref b7_2), .val (.int ex), .val (.int (own_meet (0 : Int32) q1 q3 q2 q4)), .val (.int (1 : Int32))] [])) target → Steps p.tables e below (T6_5.setTop (mkF m 101 #[.val (.long q1), .second, .val (.long q2), .second, .val (.long q3), .second, .val (.long q4), .second, .val (.int p5), .val (.int (0 : Int32)), .val (.ref b6_2), .val (.ref b7_2), .val (.int ex), .val (.int (own_meet (0 : Int32) q1 q3 q2 q4)), .unset] [])) target := by
      intro target kt
      show Steps p.tables e below (T6_5.setTop (mkF m 101 #[.val (.long q1), .second, .val (.long q2), .second, .val (.long q3), .second, .val (.long q4), .second, .val (.int p5), .val (.int (0 : Int32)), .val (.ref b6_2), .val (.ref b7_2), .val (.int ex), .val (.int (own_meet (0 : Int32) q1 q3 q2 q4)), .unset] [])) _
      refine XS.iload X6_5.here hx rfl (hb hby at_101) rfl ?_
      show Steps p.tables e below (T6_5.setTop (mkF m 103 #[.val (.long q1), .second, .val (.long q2), .second, .val (.long q3), .second, .val (.long q4), .second, .val (.int p5), .val (.int (0 : Int32)), .val (.ref b6_2), .val (.ref b7_2), .val (.int ex), .val (.int (own_meet (0 : Int32) q1 q3 q2 q4)), .unset] [(.int (0 : Int32))])) _
      refine XS.iconst X6_5.here hx rfl (hb hby at_103) ?_
      show Steps p.tables e below (T6_5.setTop (mkF m 104 #[.val (.long q1), .second, .val (.long q2), .second, .val (.long q3), .second, .val (.long q4), .second, .val (.int p5), .val (.int (0 : Int32)), .val (.ref b6_2), .val (.ref b7_2), .val (.int ex), .val (.int (own_meet (0 : Int32) q1 q3 q2 q4)), .unset] [(.int (1 : Int32)), (.int (0 : Int32))])) _
      refine XS.icmpYes X6_5.here hx rfl (pc0 := 104) (pc' := 126) rfl (hb hby at_104) rfl (tlt hc104_6).1 (by decide) (by decide) ?_
      show Steps p.tables e below (T6_5.setTop (mkF m 126 #[.val (.long q1), .second, .val (.long q2), .second, .val (.long q3), .second, .val (.long q4), .second, .val (.int p5), .val (.int (0 : Int32)), .val (.ref b6_2), .val (.ref b7_2), .val (.int ex), .val (.int (own_meet (0 : Int32) q1 q3 q2 q4)), .unset] [])) _
      refine XS.iload X6_5.here hx rfl (hb hby at_126) rfl ?_
      show Steps p.tables e below (T6_5.setTop (mkF m 128 #[.val (.long q1), .second, .val (.long q2), .second, .val (.long q3), .second, .val (.long q4), .second, .val (.int p5), .val (.int (0 : Int32)), .val (.ref b6_2), .val (.ref b7_2), .val (.int ex), .val (.int (own_meet (0 : Int32) q1 q3 q2 q4)), .unset] [(.int (0 : Int32))])) _
      refine XS.iconst X6_5.here hx rfl (hb hby at_128) ?_
      show Steps p.tables e below (T6_5.setTop (mkF m 129 #[.val (.long q1), .second, .val (.long q2), .second, .val (.long q3), .second, .val (.long q4), .second, .val (.int p5), .val (.int (0 : Int32)), .val (.ref b6_2), .val (.ref b7_2), .val (.int ex), .val (.int (own_meet (0 : Int32) q1 q3 q2 q4)), .unset] [(.int (2 : Int32)), (.int (0 : Int32))])) _
      refine XS.icmpYes X6_5.here hx rfl (pc0 := 129) (pc' := 151) rfl (hb hby at_129) rfl (tlt hc129_6).1 (by decide) (by decide) ?_
      show Steps p.tables e below (T6_5.setTop (mkF m 151 #[.val (.long q1), .second, .val (.long q2), .second, .val (.long q3), .second, .val (.long q4), .second, .val (.int p5), .val (.int (0 : Int32)), .val (.ref b6_2), .val (.ref b7_2), .val (.int ex), .val (.int (own_meet (0 : Int32) q1 q3 q2 q4)), .unset] [])) _
      refine XS.iconst X6_5.here hx rfl (hb hby at_151) ?_
      show Steps p.tables e below (T6_5.setTop (mkF m 152 #[.val (.long q1), .second, .val (.long q2), .second, .val (.long q3), .second, .val (.long q4), .second, .val (.int p5), .val (.int (0 : Int32)), .val (.ref b6_2), .val (.ref b7_2), .val (.int ex), .val (.int (own_meet (0 : Int32) q1 q3 q2 q4)), .unset] [(.int (1 : Int32))])) _
      refine XS.goto X6_5.here hx rfl (pc0 := 152) (pc' := 156) rfl (hb hby at_152) (by decide) (by decide) ?_
      show Steps p.tables e below (T6_5.setTop (mkF m 156 #[.val (.long q1), .second, .val (.long q2), .second, .val (.long q3), .second, .val (.long q4), .second, .val (.int p5), .val (.int (0 : Int32)), .val (.ref b6_2), .val (.ref b7_2), .val (.int ex), .val (.int (own_meet (0 : Int32) q1 q3 q2 q4)), .unset] [(.int (1 : Int32))])) _
      refine XS.istore X6_5.here hx rfl (hb hby at_156) rfl (l' := #[.val (.long q1), .second, .val (.long q2), .second, .val (.long q3), .second, .val (.long q4), .second, .val (.int p5), .val (.int (0 : Int32)), .val (.ref b6_2), .val (.ref b7_2), .val (.int ex), .val (.int (own_meet (0 : Int32) q1 q3 q2 q4)), .val (.int (1 : Int32))]) rfl ?_
      exact kt
    have hc162_7 : (own_meet (0 : Int32) q1 q3 q2 q4) = ex := hex.symm
    have hc167_7 : ¬ ((1 : Int32) = (0 : Int32)) := (by decide)
    have st_7p : ∀ target, Steps p.tables e below (T6_5.setTop (mkF m 175 #[.val (.long q1), .second, .val (.long q2), .second, .val (.long q3), .second, .val (.long q4), .second, .val (.int p5), .val (.int (0 : Int32)), .val (.ref b6_2), .val (.ref b7_2), .val (.int ex), .val (.int (own_meet (0 : Int32) q1 q3 q2 q4)), .val (.int (1 : Int32))] [(.int (1 : Int32))])) target → Steps p.tables e below (T6_5.setTop (mkF m 158 #[.val (.long q1), .second, .val (.long q2), .second, .val (.long q3), .second, .val (.long q4), .second, .val (.int p5), .val (.int (0 : Int32)), .val (.ref b6_2), .val (.ref b7_2), .val (.int ex), .val (.int (own_meet (0 : Int32) q1 q3 q2 q4)), .val (.int (1 : Int32))] [])) target := by
      intro target kt
      show Steps p.tables e below (T6_5.setTop (mkF m 158 #[.val (.long q1), .second, .val (.long q2), .second, .val (.long q3), .second, .val (.long q4), .second, .val (.int p5), .val (.int (0 : Int32)), .val (.ref b6_2), .val (.ref b7_2), .val (.int ex), .val (.int (own_meet (0 : Int32) q1 q3 q2 q4)), .val (.int (1 : Int32))] [])) _
      refine XS.iload X6_5.here hx rfl (hb hby at_158) rfl ?_
      show Steps p.tables e below (T6_5.setTop (mkF m 160 #[.val (.long q1), .second, .val (.long q2), .second, .val (.long q3), .second, .val (.long q4), .second, .val (.int p5), .val (.int (0 : Int32)), .val (.ref b6_2), .val (.ref b7_2), .val (.int ex), .val (.int (own_meet (0 : Int32) q1 q3 q2 q4)), .val (.int (1 : Int32))] [(.int (own_meet (0 : Int32) q1 q3 q2 q4))])) _
      refine XS.iload X6_5.here hx rfl (hb hby at_160) rfl ?_
      show Steps p.tables e below (T6_5.setTop (mkF m 162 #[.val (.long q1), .second, .val (.long q2), .second, .val (.long q3), .second, .val (.long q4), .second, .val (.int p5), .val (.int (0 : Int32)), .val (.ref b6_2), .val (.ref b7_2), .val (.int ex), .val (.int (own_meet (0 : Int32) q1 q3 q2 q4)), .val (.int (1 : Int32))] [(.int ex), (.int (own_meet (0 : Int32) q1 q3 q2 q4))])) _
      refine XS.icmpNo X6_5.here hx rfl (hb hby at_162) rfl (teq hc162_7).2 ?_
      show Steps p.tables e below (T6_5.setTop (mkF m 165 #[.val (.long q1), .second, .val (.long q2), .second, .val (.long q3), .second, .val (.long q4), .second, .val (.int p5), .val (.int (0 : Int32)), .val (.ref b6_2), .val (.ref b7_2), .val (.int ex), .val (.int (own_meet (0 : Int32) q1 q3 q2 q4)), .val (.int (1 : Int32))] [])) _
      refine XS.iload X6_5.here hx rfl (hb hby at_165) rfl ?_
      show Steps p.tables e below (T6_5.setTop (mkF m 167 #[.val (.long q1), .second, .val (.long q2), .second, .val (.long q3), .second, .val (.long q4), .second, .val (.int p5), .val (.int (0 : Int32)), .val (.ref b6_2), .val (.ref b7_2), .val (.int ex), .val (.int (own_meet (0 : Int32) q1 q3 q2 q4)), .val (.int (1 : Int32))] [(.int (1 : Int32))])) _
      refine XS.ifNo X6_5.here hx rfl (hb hby at_167) rfl ((if0 _ _).trans (feq hc167_7).1) ?_
      show Steps p.tables e below (T6_5.setTop (mkF m 170 #[.val (.long q1), .second, .val (.long q2), .second, .val (.long q3), .second, .val (.long q4), .second, .val (.int p5), .val (.int (0 : Int32)), .val (.ref b6_2), .val (.ref b7_2), .val (.int ex), .val (.int (own_meet (0 : Int32) q1 q3 q2 q4)), .val (.int (1 : Int32))] [])) _
      refine XS.iconst X6_5.here hx rfl (hb hby at_170) ?_
      show Steps p.tables e below (T6_5.setTop (mkF m 171 #[.val (.long q1), .second, .val (.long q2), .second, .val (.long q3), .second, .val (.long q4), .second, .val (.int p5), .val (.int (0 : Int32)), .val (.ref b6_2), .val (.ref b7_2), .val (.int ex), .val (.int (own_meet (0 : Int32) q1 q3 q2 q4)), .val (.int (1 : Int32))] [(.int (1 : Int32))])) _
      refine XS.goto X6_5.here hx rfl (pc0 := 171) (pc' := 175) rfl (hb hby at_171) (by decide) (by decide) ?_
      exact kt
    obtain ⟨fs, hr, hrun, hended, hW, hsame⟩ := X6_5.leave (v := some (.int (1 : Int32))) (fun h => by rw [Bd.returns] at h; cases h)
    refine ⟨_, _, pre0 _ ?_, hrun, hended, _, _, rfl, ?_, ⟨_, rfl⟩, hW, hsame.mono (by decide) (by decide)⟩
    · show Steps p.tables e below (s₁.setTop (mkF m 0 #[.val (.long q1), .second, .val (.long q2), .second, .val (.long q3), .second, .val (.long q4), .second, .val (.int p5), .unset, .unset, .unset, .unset, .unset, .unset] [])) _
      refine st_1p _ ?_
      refine st_2p _ ?_
      refine st_4p _ ?_
      refine st_5p _ ?_
      refine st_6p _ ?_
      refine st_7p _ ?_
      exact retN X6_5 hx (t := .boolean) Bd.returns (by simp) (hb hby at_175) hr
    · show Q0 Z q1 q2 q3 q4 p5 h0 n0 _ T6_5.heap _
      rw [gq_5]
      exact ⟨rfl, N6_5⟩
  · have hc24_8 : ¬ ((1 : Int32) < (1 : Int32)) := (by decide)
    have hc41_8 : (1 : Int32) < (2 : Int32) := (by decide)
    obtain ⟨T6_8, h6_8, k6_8, X6_8, e6_8, E6_8, A6_8, st6_8⟩ := newP X0 hx hZ (hw _ (List.mem_of_getElem? (i := 1) rfl)) e0 (g := (mkF m 11 #[.val (.long q1), .second, .val (.long q2), .second, .val (.long q3), .second, .val (.long q4), .second, .val (.int p5), .val (.int (1 : Int32)), .unset, .unset, .unset, .unset, .unset] [(.int (1 : Int32))])) rfl (hb hby at_11) rfl (by decide) (cap := 1) (by decide) (by decide) (by decide) (by decide)
    obtain ⟨b6_8, g6_8⟩ : ∃ z, z = h0.size := ⟨_, rfl⟩
    rw [← g6_8] at A6_8 st6_8
    have V_b6_8 : Arv Z h6_8 b6_8 k6_8 .long (1 : Int32) [.long 0] (.long 0) := (Arv.new A6_8 (by decide)).pad (pad_rep [] (.long 0) 1)
    have g_b6_8 : n0 ≤ b6_8 := Nat.le_trans Z0 (Nat.le_of_eq g6_8.symm)
    have sz_b6_8 : h0.size ≤ b6_8 := (Nat.le_trans (Keep.refl h0 []).1 (Nat.le_of_eq g6_8.symm))
    have K6_8 : Keep h0 h6_8 [] := (Keep.refl h0 []).ext E6_8
    obtain ⟨T7_8, h7_8, k7_8, X7_8, e7_8, E7_8, A7_8, st7_8⟩ := newP X6_8 hx hZ (hw _ (List.mem_of_getElem? (i := 1) rfl)) e6_8 (g := (mkF m 17 #[.val (.long q1), .second, .val (.long q2), .second, .val (.long q3), .second, .val (.long q4), .second, .val (.int p5), .val (.int (1 : Int32)), .val (.ref b6_8), .unset, .unset, .unset, .unset] [(.int (1 : Int32))])) rfl (hb hby at_17) rfl (by decide) (cap := 1) (by decide) (by decide) (by decide) (by decide)
    obtain ⟨b7_8, g7_8⟩ : ∃ z, z = h6_8.size := ⟨_, rfl⟩
    rw [← g7_8] at A7_8 st7_8
    have V_b7_8 : Arv Z h7_8 b7_8 k7_8 .long (1 : Int32) [.long 0] (.long 0) := (Arv.new A7_8 (by decide)).pad (pad_rep [] (.long 0) 1)
    have g_b7_8 : n0 ≤ b7_8 := Nat.le_trans (Nat.le_trans Z0 E6_8.1) (Nat.le_of_eq g7_8.symm)
    have sz_b7_8 : h0.size ≤ b7_8 := (Nat.le_trans K6_8.1 (Nat.le_of_eq g7_8.symm))
    have K7_8 : Keep h0 h7_8 [] := K6_8.ext E7_8
    obtain ⟨cl_b6_31_8, Ar_b6_8, q_b6_8, S_b6_8, N_b6_8, H_b6_8, G_b6_8⟩ := (V_b6_8.ext E7_8)
    have hin31_8 : ¬ ((0 : Int32) < 0 ∨ cl_b6_31_8.slots.size ≤ ((0 : Int32)).toNatClampNeg) := inb_of S_b6_8 ⟨by decide, by decide⟩
    obtain ⟨T8_8, h8_8, X8_8, e8_8, W8_8, st8_8⟩ := stJ X7_8 hx hZ e7_8 Ar_b6_8 (j := (0 : Int32)) hin31_8 (g := (mkF m 31 #[.val (.long q1), .second, .val (.long q2), .second, .val (.long q3), .second, .val (.long q4), .second, .val (.int p5), .val (.int (1 : Int32)), .val (.ref b6_8), .val (.ref b7_8), .unset, .unset, .unset] [(.long q1), (.int (0 : Int32)), (.ref b6_8)])) rfl rfl (hb hby at_31)
    have V_b6_8_8 := Arv.set Ar_b6_8 q_b6_8 S_b6_8 N_b6_8 H_b6_8 G_b6_8 rfl W8_8 0 rfl (Nat.le_of_ble_eq_true rfl)
    have K8_8 : Keep h0 h8_8 [] := K7_8.wr W8_8 (Or.inr sz_b6_8)
    have N8_8 := Fr.snoc X8_8 N0 g_b6_8
    obtain ⟨cl_b7_37_8, Ar_b7_8, q_b7_8, S_b7_8, N_b7_8, H_b7_8, G_b7_8⟩ := (V_b7_8.other W8_8 (Ne.symm (by rw [g7_8]; exact Nat.ne_of_lt V_b6_8.lt : b6_8 ≠ b7_8)))
    have hin37_8 : ¬ ((0 : Int32) < 0 ∨ cl_b7_37_8.slots.size ≤ ((0 : Int32)).toNatClampNeg) := inb_of S_b7_8 ⟨by decide, by decide⟩
    obtain ⟨T9_8, h9_8, X9_8, e9_8, W9_8, st9_8⟩ := stJ X8_8 hx hZ e8_8 Ar_b7_8 (j := (0 : Int32)) hin37_8 (g := (mkF m 37 #[.val (.long q1), .second, .val (.long q2), .second, .val (.long q3), .second, .val (.long q4), .second, .val (.int p5), .val (.int (1 : Int32)), .val (.ref b6_8), .val (.ref b7_8), .unset, .unset, .unset] [(.long q3), (.int (0 : Int32)), (.ref b7_8)])) rfl rfl (hb hby at_37)
    have V_b7_9_8 := Arv.set Ar_b7_8 q_b7_8 S_b7_8 N_b7_8 H_b7_8 G_b7_8 rfl W9_8 0 rfl (Nat.le_of_ble_eq_true rfl)
    have K9_8 : Keep h0 h9_8 [] := K8_8.wr W9_8 (Or.inr sz_b7_8)
    have N9_8 := Fr.snoc X9_8 N8_8 g_b7_8
    have st_8p : ∀ target, Steps p.tables e below (T9_8.setTop (mkF m 55 #[.val (.long q1), .second, .val (.long q2), .second, .val (.long q3), .second, .val (.long q4), .second, .val (.int p5), .val (.int (1 : Int32)), .val (.ref b6_8), .val (.ref b7_8), .unset, .unset, .unset] [])) target → Steps p.tables e below (s₁.setTop (mkF m 9 #[.val (.long q1), .second, .val (.long q2), .second, .val (.long q3), .second, .val (.long q4), .second, .val (.int p5), .val (.int (1 : Int32)), .unset, .unset, .unset, .unset, .unset] [])) target := by
      intro target kt
      show Steps p.tables e below (s₁.setTop (mkF m 9 #[.val (.long q1), .second, .val (.long q2), .second, .val (.long q3), .second, .val (.long q4), .second, .val (.int p5), .val (.int (1 : Int32)), .unset, .unset, .unset, .unset, .unset] [])) _
      refine XS.iload X0.here hx rfl (hb hby at_9) rfl ?_
      show Steps p.tables e below (s₁.setTop (mkF m 11 #[.val (.long q1), .second, .val (.long q2), .second, .val (.long q3), .second, .val (.long q4), .second, .val (.int p5), .val (.int (1 : Int32)), .unset, .unset, .unset, .unset, .unset] [(.int (1 : Int32))])) _
      refine st6_8 _ ?_
      show Steps p.tables e below (T6_8.setTop (mkF m 13 #[.val (.long q1), .second, .val (.long q2), .second, .val (.long q3), .second, .val (.long q4), .second, .val (.int p5), .val (.int (1 : Int32)), .unset, .unset, .unset, .unset, .unset] [(.ref b6_8)])) _
      refine XS.astore X6_8.here hx rfl (hb hby at_13) rfl rfl (l' := #[.val (.long q1), .second, .val (.long q2), .second, .val (.long q3), .second, .val (.long q4), .second, .val (.int p5), .val (.int (1 : Int32)), .val (.ref b6_8), .unset, .unset, .unset, .unset]) rfl ?_
      show Steps p.tables e below (T6_8.setTop (mkF m 15 #[.val (.long q1), .second, .val (.long q2), .second, .val (.long q3), .second, .val (.long q4), .second, .val (.int p5), .val (.int (1 : Int32)), .val (.ref b6_8), .unset, .unset, .unset, .unset] [])) _
      refine XS.iload X6_8.here hx rfl (hb hby at_15) rfl ?_
      show Steps p.tables e below (T6_8.setTop (mkF m 17 #[.val (.long q1), .second, .val (.long q2), .second, .val (.long q3), .second, .val (.long q4), .second, .val (.int p5), .val (.int (1 : Int32)), .val (.ref b6_8), .unset, .unset, .unset, .unset] [(.int (1 : Int32))])) _
      refine st7_8 _ ?_
      show Steps p.tables e below (T7_8.setTop (mkF m 19 #[.val (.long q1), .second, .val (.long q2), .second, .val (.long q3), .second, .val (.long q4), .second, .val (.int p5), .val (.int (1 : Int32)), .val (.ref b6_8), .unset, .unset, .unset, .unset] [(.ref b7_8)])) _
      refine XS.astore X7_8.here hx rfl (hb hby at_19) rfl rfl (l' := #[.val (.long q1), .second, .val (.long q2), .second, .val (.long q3), .second, .val (.long q4), .second, .val (.int p5), .val (.int (1 : Int32)), .val (.ref b6_8), .val (.ref b7_8), .unset, .unset, .unset]) rfl ?_
      show Steps p.tables e below (T7_8.setTop (mkF m 21 #[.val (.long q1), .second, .val (.long q2), .second, .val (.long q3), .second, .val (.long q4), .second, .val (.int p5), .val (.int (1 : Int32)), .val (.ref b6_8), .val (.ref b7_8), .unset, .unset, .unset] [])) _
      refine XS.iload X7_8.here hx rfl (hb hby at_21) rfl ?_
      show Steps p.tables e below (T7_8.setTop (mkF m 23 #[.val (.long q1), .second, .val (.long q2), .second, .val (.long q3), .second, .val (.long q4), .second, .val (.int p5), .val (.int (1 : Int32)), .val (.ref b6_8), .val (.ref b7_8), .unset, .unset, .unset] [(.int (1 : Int32))])) _
      refine XS.iconst X7_8.here hx rfl (hb hby at_23) ?_
      show Steps p.tables e below (T7_8.setTop (mkF m 24 #[.val (.long q1), .second, .val (.long q2), .second, .val (.long q3), .second, .val (.long q4), .second, .val (.int p5), .val (.int (1 : Int32)), .val (.ref b6_8), .val (.ref b7_8), .unset, .unset, .unset] [(.int (1 : Int32)), (.int (1 : Int32))])) _
      refine XS.icmpNo X7_8.here hx rfl (hb hby at_24) rfl (flt hc24_8).1 ?_
      show Steps p.tables e below (T7_8.setTop (mkF m 27 #[.val (.long q1), .second, .val (.long q2), .second, .val (.long q3), .second, .val (.long q4), .second, .val (.int p5), .val (.int (1 : Int32)), .val (.ref b6_8), .val (.ref b7_8), .unset, .unset, .unset] [])) _
      refine XS.aload X7_8.here hx rfl (hb hby at_27) rfl rfl ?_
      show Steps p.tables e below (T7_8.setTop (mkF m 29 #[.val (.long q1), .second, .val (.long q2), .second, .val (.long q3), .second, .val (.long q4), .second, .val (.int p5), .val (.int (1 : Int32)), .val (.ref b6_8), .val (.ref b7_8), .unset, .unset, .unset] [(.ref b6_8)])) _
      refine XS.iconst X7_8.here hx rfl (hb hby at_29) ?_
      show Steps p.tables e below (T7_8.setTop (mkF m 30 #[.val (.long q1), .second, .val (.long q2), .second, .val (.long q3), .second, .val (.long q4), .second, .val (.int p5), .val (.int (1 : Int32)), .val (.ref b6_8), .val (.ref b7_8), .unset, .unset, .unset] [(.int (0 : Int32)), (.ref b6_8)])) _
      refine XS.lloadN X7_8.here hx rfl (hb hby at_30) rfl ?_
      show Steps p.tables e below (T7_8.setTop (mkF m 31 #[.val (.long q1), .second, .val (.long q2), .second, .val (.long q3), .second, .val (.long q4), .second, .val (.int p5), .val (.int (1 : Int32)), .val (.ref b6_8), .val (.ref b7_8), .unset, .unset, .unset] [(.long q1), (.int (0 : Int32)), (.ref b6_8)])) _
      refine st8_8 _ ?_
      show Steps p.tables e below (T8_8.setTop (mkF m 32 #[.val (.long q1), .second, .val (.long q2), .second, .val (.long q3), .second, .val (.long q4), .second, .val (.int p5), .val (.int (1 : Int32)), .val (.ref b6_8), .val (.ref b7_8), .unset, .unset, .unset] [])) _
      refine XS.aload X8_8.here hx rfl (hb hby at_32) rfl rfl ?_
      show Steps p.tables e below (T8_8.setTop (mkF m 34 #[.val (.long q1), .second, .val (.long q2), .second, .val (.long q3), .second, .val (.long q4), .second, .val (.int p5), .val (.int (1 : Int32)), .val (.ref b6_8), .val (.ref b7_8), .unset, .unset, .unset] [(.ref b7_8)])) _
      refine XS.iconst X8_8.here hx rfl (hb hby at_34) ?_
      show Steps p.tables e below (T8_8.setTop (mkF m 35 #[.val (.long q1), .second, .val (.long q2), .second, .val (.long q3), .second, .val (.long q4), .second, .val (.int p5), .val (.int (1 : Int32)), .val (.ref b6_8), .val (.ref b7_8), .unset, .unset, .unset] [(.int (0 : Int32)), (.ref b7_8)])) _
      refine XS.lload X8_8.here hx rfl (hb hby at_35) rfl ?_
      show Steps p.tables e below (T8_8.setTop (mkF m 37 #[.val (.long q1), .second, .val (.long q2), .second, .val (.long q3), .second, .val (.long q4), .second, .val (.int p5), .val (.int (1 : Int32)), .val (.ref b6_8), .val (.ref b7_8), .unset, .unset, .unset] [(.long q3), (.int (0 : Int32)), (.ref b7_8)])) _
      refine st9_8 _ ?_
      show Steps p.tables e below (T9_8.setTop (mkF m 38 #[.val (.long q1), .second, .val (.long q2), .second, .val (.long q3), .second, .val (.long q4), .second, .val (.int p5), .val (.int (1 : Int32)), .val (.ref b6_8), .val (.ref b7_8), .unset, .unset, .unset] [])) _
      refine XS.iload X9_8.here hx rfl (hb hby at_38) rfl ?_
      show Steps p.tables e below (T9_8.setTop (mkF m 40 #[.val (.long q1), .second, .val (.long q2), .second, .val (.long q3), .second, .val (.long q4), .second, .val (.int p5), .val (.int (1 : Int32)), .val (.ref b6_8), .val (.ref b7_8), .unset, .unset, .unset] [(.int (1 : Int32))])) _
      refine XS.iconst X9_8.here hx rfl (hb hby at_40) ?_
      show Steps p.tables e below (T9_8.setTop (mkF m 41 #[.val (.long q1), .second, .val (.long q2), .second, .val (.long q3), .second, .val (.long q4), .second, .val (.int p5), .val (.int (1 : Int32)), .val (.ref b6_8), .val (.ref b7_8), .unset, .unset, .unset] [(.int (2 : Int32)), (.int (1 : Int32))])) _
      refine XS.icmpYes X9_8.here hx rfl (pc0 := 41) (pc' := 55) rfl (hb hby at_41) rfl (tlt hc41_8).1 (by decide) (by decide) ?_
      exact kt
    have Va : Arv Z h9_8 b6_8 k6_8 .long (1 : Int32) [.long q1] (.long 0) := V_b6_8_8.other W9_8 (by rw [g7_8]; exact Nat.ne_of_lt V_b6_8.lt : b6_8 ≠ b7_8)
    have Vb : Arv Z h9_8 b7_8 k7_8 .long (1 : Int32) [.long q3] (.long 0) := V_b7_9_8
    have Zc : n0 ≤ h9_8.size := Nat.le_trans Z0 K9_8.1
    obtain ⟨ex, hex, st_11p⟩ : ∃ (ex : Int32), (ex = own_meet (1 : Int32) q1 q3 q2 q4) ∧ ∀ target, Steps p.tables e below (T9_8.setTop (mkF m 92 #[.val (.long q1), .second, .val (.long q2), .second, .val (.long q3), .second, .val (.long q4), .second, .val (.int p5), .val (.int (1 : Int32)), .val (.ref b6_8), .val (.ref b7_8), .val (.int ex), .unset, .unset] [])) target → Steps p.tables e below (T9_8.setTop (mkF m 55 #[.val (.long q1), .second, .val (.long q2), .second, .val (.long q3), .second, .val (.long q4), .second, .val (.int p5), .val (.int (1 : Int32)), .val (.ref b6_8), .val (.ref b7_8), .unset, .unset, .unset] [])) target := by
      by_cases hc58 : (1 : Int32) < (1 : Int32)
      · exact absurd hc58 (by decide)
      · by_cases hc67 : (lcmpW (q1 &&& q3) (0 : Int64)) = (0 : Int32)
        · by_cases hc73 : (1 : Int32) < (2 : Int32)
          · refine ⟨(0 : Int32), by have u : (q1 &&& q3) = 0 := ((lw_eq _ _).mp hc67); simp [own_meet, u], fun target kt => ?_⟩
            show Steps p.tables e below (T9_8.setTop (mkF m 55 #[.val (.long q1), .second, .val (.long q2), .second, .val (.long q3), .second, .val (.long q4), .second, .val (.int p5), .val (.int (1 : Int32)), .val (.ref b6_8), .val (.ref b7_8), .unset, .unset, .unset] [])) _
            refine XS.iload X9_8.here hx rfl (hb hby at_55) rfl ?_
            show Steps p.tables e below (T9_8.setTop (mkF m 57 #[.val (.long q1), .second, .val (.long q2), .second, .val (.long q3), .second, .val (.long q4), .second, .val (.int p5), .val (.int (1 : Int32)), .val (.ref b6_8), .val (.ref b7_8), .unset, .unset, .unset] [(.int (1 : Int32))])) _
            refine XS.iconst X9_8.here hx rfl (hb hby at_57) ?_
            show Steps p.tables e below (T9_8.setTop (mkF m 58 #[.val (.long q1), .second, .val (.long q2), .second, .val (.long q3), .second, .val (.long q4), .second, .val (.int p5), .val (.int (1 : Int32)), .val (.ref b6_8), .val (.ref b7_8), .unset, .unset, .unset] [(.int (1 : Int32)), (.int (1 : Int32))])) _
            refine XS.icmpNo X9_8.here hx rfl (hb hby at_58) rfl (flt hc58).1 ?_
            show Steps p.tables e below (T9_8.setTop (mkF m 61 #[.val (.long q1), .second, .val (.long q2), .second, .val (.long q3), .second, .val (.long q4), .second, .val (.int p5), .val (.int (1 : Int32)), .val (.ref b6_8), .val (.ref b7_8), .unset, .unset, .unset] [])) _
            refine XS.lloadN X9_8.here hx rfl (hb hby at_61) rfl ?_
            show Steps p.tables e below (T9_8.setTop (mkF m 62 #[.val (.long q1), .second, .val (.long q2), .second, .val (.long q3), .second, .val (.long q4), .second, .val (.int p5), .val (.int (1 : Int32)), .val (.ref b6_8), .val (.ref b7_8), .unset, .unset, .unset] [(.long q1)])) _
            refine XS.lload X9_8.here hx rfl (hb hby at_62) rfl ?_
            show Steps p.tables e below (T9_8.setTop (mkF m 64 #[.val (.long q1), .second, .val (.long q2), .second, .val (.long q3), .second, .val (.long q4), .second, .val (.int p5), .val (.int (1 : Int32)), .val (.ref b6_8), .val (.ref b7_8), .unset, .unset, .unset] [(.long q3), (.long q1)])) _
            refine XS.land X9_8.here hx rfl (hb hby at_64) rfl ?_
            show Steps p.tables e below (T9_8.setTop (mkF m 65 #[.val (.long q1), .second, .val (.long q2), .second, .val (.long q3), .second, .val (.long q4), .second, .val (.int p5), .val (.int (1 : Int32)), .val (.ref b6_8), .val (.ref b7_8), .unset, .unset, .unset] [(.long (q1 &&& q3))])) _
            refine XS.lconst X9_8.here hx rfl (hb hby at_65) ?_
            show Steps p.tables e below (T9_8.setTop (mkF m 66 #[.val (.long q1), .second, .val (.long q2), .second, .val (.long q3), .second, .val (.long q4), .second, .val (.int p5), .val (.int (1 : Int32)), .val (.ref b6_8), .val (.ref b7_8), .unset, .unset, .unset] [(.long (0 : Int64)), (.long (q1 &&& q3))])) _
            refine XS.lcmp X9_8.here hx rfl (hb hby at_66) rfl ?_
            show Steps p.tables e below (T9_8.setTop (mkF m 67 #[.val (.long q1), .second, .val (.long q2), .second, .val (.long q3), .second, .val (.long q4), .second, .val (.int p5), .val (.int (1 : Int32)), .val (.ref b6_8), .val (.ref b7_8), .unset, .unset, .unset] [(.int (lcmpW (q1 &&& q3) (0 : Int64)))])) _
            refine XS.ifNo X9_8.here hx rfl (hb hby at_67) rfl ((if0 _ _).trans (teq hc67).2) ?_
            show Steps p.tables e below (T9_8.setTop (mkF m 70 #[.val (.long q1), .second, .val (.long q2), .second, .val (.long q3), .second, .val (.long q4), .second, .val (.int p5), .val (.int (1 : Int32)), .val (.ref b6_8), .val (.ref b7_8), .unset, .unset, .unset] [])) _
            refine XS.iload X9_8.here hx rfl (hb hby at_70) rfl ?_
            show Steps p.tables e below (T9_8.setTop (mkF m 72 #[.val (.long q1), .second, .val (.long q2), .second, .val (.long q3), .second, .val (.long q4), .second, .val (.int p5), .val (.int (1 : Int32)), .val (.ref b6_8), .val (.ref b7_8), .unset, .unset, .unset] [(.int (1 : Int32))])) _
            refine XS.iconst X9_8.here hx rfl (hb hby at_72) ?_
            show Steps p.tables e below (T9_8.setTop (mkF m 73 #[.val (.long q1), .second, .val (.long q2), .second, .val (.long q3), .second, .val (.long q4), .second, .val (.int p5), .val (.int (1 : Int32)), .val (.ref b6_8), .val (.ref b7_8), .unset, .unset, .unset] [(.int (2 : Int32)), (.int (1 : Int32))])) _
            refine XS.icmpYes X9_8.here hx rfl (pc0 := 73) (pc' := 89) rfl (hb hby at_73) rfl (tlt hc73).1 (by decide) (by decide) ?_
            show Steps p.tables e below (T9_8.setTop (mkF m 89 #[.val (.long q1), .second, .val (.long q2), .second, .val (.long q3), .second, .val (.long q4), .second, .val (.int p5), .val (.int (1 : Int32)), .val (.ref b6_8), .val (.ref b7_8), .unset, .unset, .unset] [])) _
            refine XS.iconst X9_8.here hx rfl (hb hby at_89) ?_
            show Steps p.tables e below (T9_8.setTop (mkF m 90 #[.val (.long q1), .second, .val (.long q2), .second, .val (.long q3), .second, .val (.long q4), .second, .val (.int p5), .val (.int (1 : Int32)), .val (.ref b6_8), .val (.ref b7_8), .unset, .unset, .unset] [(.int (0 : Int32))])) _
            refine XS.istore X9_8.here hx rfl (hb hby at_90) rfl (l' := #[.val (.long q1), .second, .val (.long q2), .second, .val (.long q3), .second, .val (.long q4), .second, .val (.int p5), .val (.int (1 : Int32)), .val (.ref b6_8), .val (.ref b7_8), .val (.int (0 : Int32)), .unset, .unset]) rfl ?_
            exact kt
          · exact absurd (by decide) hc73
        · refine ⟨(1 : Int32), by have u : ¬ (q1 &&& q3) = 0 := (fun q => hc67 ((lw_eq _ _).mpr q)); simp [own_meet, u], fun target kt => ?_⟩
          show Steps p.tables e below (T9_8.setTop (mkF m 55 #[.val (.long q1), .second, .val (.long q2), .second, .val (.long q3), .second, .val (.long q4), .second, .val (.int p5), .val (.int (1 : Int32)), .val (.ref b6_8), .val (.ref b7_8), .unset, .unset, .unset] [])) _
          refine XS.iload X9_8.here hx rfl (hb hby at_55) rfl ?_
          show Steps p.tables e below (T9_8.setTop (mkF m 57 #[.val (.long q1), .second, .val (.long q2), .second, .val (.long q3), .second, .val (.long q4), .second, .val (.int p5), .val (.int (1 : Int32)), .val (.ref b6_8), .val (.ref b7_8), .unset, .unset, .unset] [(.int (1 : Int32))])) _
          refine XS.iconst X9_8.here hx rfl (hb hby at_57) ?_
          show Steps p.tables e below (T9_8.setTop (mkF m 58 #[.val (.long q1), .second, .val (.long q2), .second, .val (.long q3), .second, .val (.long q4), .second, .val (.int p5), .val (.int (1 : Int32)), .val (.ref b6_8), .val (.ref b7_8), .unset, .unset, .unset] [(.int (1 : Int32)), (.int (1 : Int32))])) _
          refine XS.icmpNo X9_8.here hx rfl (hb hby at_58) rfl (flt hc58).1 ?_
          show Steps p.tables e below (T9_8.setTop (mkF m 61 #[.val (.long q1), .second, .val (.long q2), .second, .val (.long q3), .second, .val (.long q4), .second, .val (.int p5), .val (.int (1 : Int32)), .val (.ref b6_8), .val (.ref b7_8), .unset, .unset, .unset] [])) _
          refine XS.lloadN X9_8.here hx rfl (hb hby at_61) rfl ?_
          show Steps p.tables e below (T9_8.setTop (mkF m 62 #[.val (.long q1), .second, .val (.long q2), .second, .val (.long q3), .second, .val (.long q4), .second, .val (.int p5), .val (.int (1 : Int32)), .val (.ref b6_8), .val (.ref b7_8), .unset, .unset, .unset] [(.long q1)])) _
          refine XS.lload X9_8.here hx rfl (hb hby at_62) rfl ?_
          show Steps p.tables e below (T9_8.setTop (mkF m 64 #[.val (.long q1), .second, .val (.long q2), .second, .val (.long q3), .second, .val (.long q4), .second, .val (.int p5), .val (.int (1 : Int32)), .val (.ref b6_8), .val (.ref b7_8), .unset, .unset, .unset] [(.long q3), (.long q1)])) _
          refine XS.land X9_8.here hx rfl (hb hby at_64) rfl ?_
          show Steps p.tables e below (T9_8.setTop (mkF m 65 #[.val (.long q1), .second, .val (.long q2), .second, .val (.long q3), .second, .val (.long q4), .second, .val (.int p5), .val (.int (1 : Int32)), .val (.ref b6_8), .val (.ref b7_8), .unset, .unset, .unset] [(.long (q1 &&& q3))])) _
          refine XS.lconst X9_8.here hx rfl (hb hby at_65) ?_
          show Steps p.tables e below (T9_8.setTop (mkF m 66 #[.val (.long q1), .second, .val (.long q2), .second, .val (.long q3), .second, .val (.long q4), .second, .val (.int p5), .val (.int (1 : Int32)), .val (.ref b6_8), .val (.ref b7_8), .unset, .unset, .unset] [(.long (0 : Int64)), (.long (q1 &&& q3))])) _
          refine XS.lcmp X9_8.here hx rfl (hb hby at_66) rfl ?_
          show Steps p.tables e below (T9_8.setTop (mkF m 67 #[.val (.long q1), .second, .val (.long q2), .second, .val (.long q3), .second, .val (.long q4), .second, .val (.int p5), .val (.int (1 : Int32)), .val (.ref b6_8), .val (.ref b7_8), .unset, .unset, .unset] [(.int (lcmpW (q1 &&& q3) (0 : Int64)))])) _
          refine XS.ifYes X9_8.here hx rfl (pc0 := 67) (pc' := 85) rfl (hb hby at_67) rfl ((if0 _ _).trans (feq hc67).2) (by decide) (by decide) ?_
          show Steps p.tables e below (T9_8.setTop (mkF m 85 #[.val (.long q1), .second, .val (.long q2), .second, .val (.long q3), .second, .val (.long q4), .second, .val (.int p5), .val (.int (1 : Int32)), .val (.ref b6_8), .val (.ref b7_8), .unset, .unset, .unset] [])) _
          refine XS.iconst X9_8.here hx rfl (hb hby at_85) ?_
          show Steps p.tables e below (T9_8.setTop (mkF m 86 #[.val (.long q1), .second, .val (.long q2), .second, .val (.long q3), .second, .val (.long q4), .second, .val (.int p5), .val (.int (1 : Int32)), .val (.ref b6_8), .val (.ref b7_8), .unset, .unset, .unset] [(.int (1 : Int32))])) _
          refine XS.goto X9_8.here hx rfl (pc0 := 86) (pc' := 90) rfl (hb hby at_86) (by decide) (by decide) ?_
          show Steps p.tables e below (T9_8.setTop (mkF m 90 #[.val (.long q1), .second, .val (.long q2), .second, .val (.long q3), .second, .val (.long q4), .second, .val (.int p5), .val (.int (1 : Int32)), .val (.ref b6_8), .val (.ref b7_8), .unset, .unset, .unset] [(.int (1 : Int32))])) _
          refine XS.istore X9_8.here hx rfl (hb hby at_90) rfl (l' := #[.val (.long q1), .second, .val (.long q2), .second, .val (.long q3), .second, .val (.long q4), .second, .val (.int p5), .val (.int (1 : Int32)), .val (.ref b6_8), .val (.ref b7_8), .val (.int (1 : Int32)), .unset, .unset]) rfl ?_
          exact kt
    obtain ⟨_, _, ⟨T6_12, L6_12, k6_12, n6_12⟩, -, X6_12, ⟨Lc6_12, hQ6_12, l6_12, y6_12, z6_12⟩, st6_12⟩ := Jvm.LawKit.callS X9_8 hx (y := (⟨"com/example/estiba/estiba/placement/Bits", "meet", "([J[J)Z"⟩ : MethodName)) hown (mvT hZ (hw _ (List.mem_of_getElem? (i := 2) rfl))) (mvT hZ (hw _ (List.mem_of_getElem? (i := 3) rfl))) (mvT hZ (hw _ (List.mem_of_getElem? (i := 4) rfl))) (mvT hZ (hw _ (List.mem_of_getElem? (i := 5) rfl))) (by decide) (backOf (W := 0) (rm1 l Z a0 hw [] b6_8 b7_8 (1 : Int32) q1 q3 q2 q4 _ _ _ _ h9_8 n0 Zc Va Vb (Or.inr (Or.inl rfl)) (fun _ => rfl) (fun _ => rfl) (fun q => absurd q (by decide)) (fun q => absurd q (by decide))) hZ (hw _ (List.mem_of_getElem? (i := 5) rfl)) (hw _ (List.mem_of_getElem? (i := 4) rfl)) (by decide) (by decide)) (g := (mkF m 96 #[.val (.long q1), .second, .val (.long q2), .second, .val (.long q3), .second, .val (.long q4), .second, .val (.int p5), .val (.int (1 : Int32)), .val (.ref b6_8), .val (.ref b7_8), .val (.int ex), .unset, .unset] [(.ref b7_8), (.ref b6_8)])) rfl (by rw [hml]; rfl) (argsL := [(.ref b6_8), (.ref b7_8)]) (rest := []) (lenOf pd_0 rfl) rfl (by show 2 * 0 + _ ≤ _; exact Nat.le_of_eq rfl) (hb hby at_96) (fun _ _ => ⟨rfl, e9_8, (by decide : 0 + 2 + 0 ≤ _), (by decide : 0 + 2 + 0 ≤ _)⟩)
    dsimp only [Pt.U, Pt.locs, Pt.cells, Pt.slots] at X6_12 l6_12 y6_12 z6_12 st6_12 hQ6_12
    subst l6_12 y6_12 z6_12
    obtain ⟨rfl, N6q_12, gq_12⟩ := hQ6_12
    have N6_12 := Fr.app N9_8 N6q_12
    have st_12p : ∀ target, Steps p.tables e below (T6_12.setTop (mkF m 101 #[.val (.long q1), .second, .val (.long q2), .second, .val (.long q3), .second, .val (.long q4), .second, .val (.int p5), .val (.int (1 : Int32)), .val (.ref b6_8), .val (.ref b7_8), .val (.int ex), .val (.int (own_meet (1 : Int32) q1 q3 q2 q4)), .unset] [])) target → Steps p.tables e below (T9_8.setTop (mkF m 92 #[.val (.long q1), .second, .val (.long q2), .second, .val (.long q3), .second, .val (.long q4), .second, .val (.int p5), .val (.int (1 : Int32)), .val (.ref b6_8), .val (.ref b7_8), .val (.int ex), .unset, .unset] [])) target := by
      intro target kt
      show Steps p.tables e below (T9_8.setTop (mkF m 92 #[.val (.long q1), .second, .val (.long q2), .second, .val (.long q3), .second, .val (.long q4), .second, .val (.int p5), .val (.int (1 : Int32)), .val (.ref b6_8), .val (.ref b7_8), .val (.int ex), .unset, .unset] [])) _
      refine XS.aload X9_8.here hx rfl (hb hby at_92) rfl rfl ?_
      show Steps p.tables e below (T9_8.setTop (mkF m 94 #[.val (.long q1), .second, .val (.long q2), .second, .val (.long q3), .second, .val (.long q4), .second, .val (.int p5), .val (.int (1 : Int32)), .val (.ref b6_8), .val (.ref b7_8), .val (.int ex), .unset, .unset] [(.ref b6_8)])) _
      refine XS.aload X9_8.here hx rfl (hb hby at_94) rfl rfl ?_
      show Steps p.tables e below (T9_8.setTop (mkF m 96 #[.val (.long q1), .second, .val (.long q2), .second, .val (.long q3), .second, .val (.long q4), .second, .val (.int p5), .val (.int (1 : Int32)), .val (.ref b6_8), .val (.ref b7_8), .val (.int ex), .unset, .unset] [(.ref b7_8), (.ref b6_8)])) _
      refine st6_12 _ ?_
      show Steps p.tables e below (T6_12.setTop (mkF m 99 #[.val (.long q1), .second, .val (.long q2), .second, .val (.long q3), .second, .val (.long q4), .second, .val (.int p5), .val (.int (1 : Int32)), .val (.ref b6_8), .val (.ref b7_8), .val (.int ex), .unset, .unset] [(.int (own_meet (1 : Int32) q1 q3 q2 q4))])) _
      refine XS.istore X6_12.here hx rfl (hb hby at_99) rfl (l' := #[.val (.long q1), .second, .val (.long q2), .second, .val (.long q3), .second, .val (.long q4), .second, .val (.int p5), .val (.int (1 : Int32)), .val (.ref b6_8), .val (.ref b7_8), .val (.int ex), .val (.int (own_meet (1 : Int32) q1 q3 q2 q4)), .unset]) rfl ?_
      exact kt
    obtain ⟨cl, Ar, qc, S, Nn, H, G⟩ := Va
    obtain ⟨cu, Au, qu, Su, Nu, Hu, Gu⟩ := Vb
    have hi0 : ¬ ((0 : Int32) < 0 ∨ cl.slots.size ≤ ((0 : Int32)).toNatClampNeg) := inb_of S ⟨by decide, by decide⟩
    have hj0 : ¬ ((0 : Int32) < 0 ∨ cu.slots.size ≤ ((0 : Int32)).toNatClampNeg) := inb_of Su ⟨by decide, by decide⟩
    have hc104_13 : ¬ ((1 : Int32) < (1 : Int32)) := (by decide)
    have hc113_13 : (lcmpW q1 q1) = (0 : Int32) := (lw_eq _ _).mpr rfl
    have hc123_13 : (lcmpW q3 q3) = (0 : Int32) := (lw_eq _ _).mpr rfl
    have hc129_13 : (1 : Int32) < (2 : Int32) := (by decide)
    have st_13p : ∀ target, Steps p.tables e below (T6_12.setTop (mkF m 158 #[.val (.long q1), .second, .val (.long q2), .second, .val (.long q3), .second, .val (.long q4), .second, .val (.int p5), .val (.int (1 : Int32)), .val (.ref b6_8), .val (.ref b7_8), .val (.int ex), .val (.int (own_meet (1 : Int32) q1 q3 q2 q4)), .val (.int (1 : Int32))] [])) target → Steps p.tables e below (T6_12.setTop (mkF m 101 #[.val (.long q1), .second, .val (.long q2), .second, .val (.long q3), .second, .val (.long q4), .second, .val (.int p5), .val (.int (1 : Int32)), .val (.ref b6_8), .val (.ref b7_8), .val (.int ex), .val (.int (own_meet (1 : Int32) q1 q3 q2 q4)), .unset] [])) target := by
      intro target kt
      show Steps p.tables e below (T6_12.setTop (mkF m 101 #[.val (.long q1), .second, .val (.long q2), .second, .val (.long q3), .second, .val (.long q4), .second, .val (.int p5), .val (.int (1 : Int32)), .val (.ref b6_8), .val (.ref b7_8), .val (.int ex), .val (.int (own_meet (1 : Int32) q1 q3 q2 q4)), .unset] [])) _
      refine XS.iload X6_12.here hx rfl (hb hby at_101) rfl ?_
      show Steps p.tables e below (T6_12.setTop (mkF m 103 #[.val (.long q1), .second, .val (.long q2), .second, .val (.long q3), .second, .val (.long q4), .second, .val (.int p5), .val (.int (1 : Int32)), .val (.ref b6_8), .val (.ref b7_8), .val (.int ex), .val (.int (own_meet (1 : Int32) q1 q3 q2 q4)), .unset] [(.int (1 : Int32))])) _
      refine XS.iconst X6_12.here hx rfl (hb hby at_103) ?_
      show Steps p.tables e below (T6_12.setTop (mkF m 104 #[.val (.long q1), .second, .val (.long q2), .second, .val (.long q3), .second, .val (.long q4), .second, .val (.int p5), .val (.int (1 : Int32)), .val (.ref b6_8), .val (.ref b7_8), .val (.int ex), .val (.int (own_meet (1 : Int32) q1 q3 q2 q4)), .unset] [(.int (1 : Int32)), (.int (1 : Int32))])) _
      refine XS.icmpNo X6_12.here hx rfl (hb hby at_104) rfl (flt hc104_13).1 ?_
      show Steps p.tables e below (T6_12.setTop (mkF m 107 #[.val (.long q1), .second, .val (.long q2), .second, .val (.long q3), .second, .val (.long q4), .second, .val (.int p5), .val (.int (1 : Int32)), .val (.ref b6_8), .val (.ref b7_8), .val (.int ex), .val (.int (own_meet (1 : Int32) q1 q3 q2 q4)), .unset] [])) _
      refine XS.aload X6_12.here hx rfl (hb hby at_107) rfl rfl ?_
      show Steps p.tables e below (T6_12.setTop (mkF m 109 #[.val (.long q1), .second, .val (.long q2), .second, .val (.long q3), .second, .val (.long q4), .second, .val (.int p5), .val (.int (1 : Int32)), .val (.ref b6_8), .val (.ref b7_8), .val (.int ex), .val (.int (own_meet (1 : Int32) q1 q3 q2 q4)), .unset] [(.ref b6_8)])) _
      refine XS.iconst X6_12.here hx rfl (hb hby at_109) ?_
      show Steps p.tables e below (T6_12.setTop (mkF m 110 #[.val (.long q1), .second, .val (.long q2), .second, .val (.long q3), .second, .val (.long q4), .second, .val (.int p5), .val (.int (1 : Int32)), .val (.ref b6_8), .val (.ref b7_8), .val (.int ex), .val (.int (own_meet (1 : Int32) q1 q3 q2 q4)), .unset] [(.int (0 : Int32)), (.ref b6_8)])) _
      refine X6_12.laload hx (j := (0 : Int32)) (v := (.long q1)) (by rw [gq_12]; exact Ar.1) (State.isArrayOf_alike hZ.alike Ar.2.1) Ar.2.2 hi0 (Has.at H hi0 rfl) (g := (mkF m 110 #[.val (.long q1), .second, .val (.long q2), .second, .val (.long q3), .second, .val (.long q4), .second, .val (.int p5), .val (.int (1 : Int32)), .val (.ref b6_8), .val (.ref b7_8), .val (.int ex), .val (.int (own_meet (1 : Int32) q1 q3 q2 q4)), .unset] [(.int (0 : Int32)), (.ref b6_8)])) rfl rfl (hb hby at_110) _ ?_
      show Steps p.tables e below (T6_12.setTop (mkF m 111 #[.val (.long q1), .second, .val (.long q2), .second, .val (.long q3), .second, .val (.long q4), .second, .val (.int p5), .val (.int (1 : Int32)), .val (.ref b6_8), .val (.ref b7_8), .val (.int ex), .val (.int (own_meet (1 : Int32) q1 q3 q2 q4)), .unset] [(.long q1)])) _
      refine XS.lloadN X6_12.here hx rfl (hb hby at_111) rfl ?_
      show Steps p.tables e below (T6_12.setTop (mkF m 112 #[.val (.long q1), .second, .val (.long q2), .second, .val (.long q3), .second, .val (.long q4), .second, .val (.int p5), .val (.int (1 : Int32)), .val (.ref b6_8), .val (.ref b7_8), .val (.int ex), .val (.int (own_meet (1 : Int32) q1 q3 q2 q4)), .unset] [(.long q1), (.long q1)])) _
      refine XS.lcmp X6_12.here hx rfl (hb hby at_112) rfl ?_
      show Steps p.tables e below (T6_12.setTop (mkF m 113 #[.val (.long q1), .second, .val (.long q2), .second, .val (.long q3), .second, .val (.long q4), .second, .val (.int p5), .val (.int (1 : Int32)), .val (.ref b6_8), .val (.ref b7_8), .val (.int ex), .val (.int (own_meet (1 : Int32) q1 q3 q2 q4)), .unset] [(.int (lcmpW q1 q1))])) _
      refine XS.ifNo X6_12.here hx rfl (hb hby at_113) rfl ((if0 _ _).trans (teq hc113_13).2) ?_
      show Steps p.tables e below (T6_12.setTop (mkF m 116 #[.val (.long q1), .second, .val (.long q2), .second, .val (.long q3), .second, .val (.long q4), .second, .val (.int p5), .val (.int (1 : Int32)), .val (.ref b6_8), .val (.ref b7_8), .val (.int ex), .val (.int (own_meet (1 : Int32) q1 q3 q2 q4)), .unset] [])) _
      refine XS.aload X6_12.here hx rfl (hb hby at_116) rfl rfl ?_
      show Steps p.tables e below (T6_12.setTop (mkF m 118 #[.val (.long q1), .second, .val (.long q2), .second, .val (.long q3), .second, .val (.long q4), .second, .val (.int p5), .val (.int (1 : Int32)), .val (.ref b6_8), .val (.ref b7_8), .val (.int ex), .val (.int (own_meet (1 : Int32) q1 q3 q2 q4)), .unset] [(.ref b7_8)])) _
      refine XS.iconst X6_12.here hx rfl (hb hby at_118) ?_
      show Steps p.tables e below (T6_12.setTop (mkF m 119 #[.val (.long q1), .second, .val (.long q2), .second, .val (.long q3), .second, .val (.long q4), .second, .val (.int p5), .val (.int (1 : Int32)), .val (.ref b6_8), .val (.ref b7_8), .val (.int ex), .val (.int (own_meet (1 : Int32) q1 q3 q2 q4)), .unset] [(.int (0 : Int32)), (.ref b7_8)])) _
      refine X6_12.laload hx (j := (0 : Int32)) (v := (.long q3)) (by rw [gq_12]; exact Au.1) (State.isArrayOf_alike hZ.alike Au.2.1) Au.2.2 hj0 (Has.at Hu hj0 rfl) (g := (mkF m 119 #[.val (.long q1), .second, .val (.long q2), .second, .val (.long q3), .second, .val (.long q4), .second, .val (.int p5), .val (.int (1 : Int32)), .val (.ref b6_8), .val (.ref b7_8), .val (.int ex), .val (.int (own_meet (1 : Int32) q1 q3 q2 q4)), .unset] [(.int (0 : Int32)), (.ref b7_8)])) rfl rfl (hb hby at_119) _ ?_
      show Steps p.tables e below (T6_12.setTop (mkF m 120 #[.val (.long q1), .second, .val (.long q2), .second, .val (.long q3), .second, .val (.long q4), .second, .val (.int p5), .val (.int (1 : Int32)), .val (.ref b6_8), .val (.ref b7_8), .val (.int ex), .val (.int (own_meet (1 : Int32) q1 q3 q2 q4)), .unset] [(.long q3)])) _
      refine XS.lload X6_12.here hx rfl (hb hby at_120) rfl ?_
      show Steps p.tables e below (T6_12.setTop (mkF m 122 #[.val (.long q1), .second, .val (.long q2), .second, .val (.long q3), .second, .val (.long q4), .second, .val (.int p5), .val (.int (1 : Int32)), .val (.ref b6_8), .val (.ref b7_8), .val (.int ex), .val (.int (own_meet (1 : Int32) q1 q3 q2 q4)), .unset] [(.long q3), (.long q3)])) _
      refine XS.lcmp X6_12.here hx rfl (hb hby at_122) rfl ?_
      show Steps p.tables e below (T6_12.setTop (mkF m 123 #[.val (.long q1), .second, .val (.long q2), .second, .val (.long q3), .second, .val (.long q4), .second, .val (.int p5), .val (.int (1 : Int32)), .val (.ref b6_8), .val (.ref b7_8), .val (.int ex), .val (.int (own_meet (1 : Int32) q1 q3 q2 q4)), .unset] [(.int (lcmpW q3 q3))])) _
      refine XS.ifNo X6_12.here hx rfl (hb hby at_123) rfl ((if0 _ _).trans (teq hc123_13).2) ?_
      show Steps p.tables e below (T6_12.setTop (mkF m 126 #[.val (.long q1), .second, .val (.long q2), .second, .val (.long q3), .second, .val (.long q4), .second, .val (.int p5), .val (.int (1 : Int32)), .val (.ref b6_8), .val (.ref b7_8), .val (.int ex), .val (.int (own_meet (1 : Int32) q1 q3 q2 q4)), .unset] [])) _
      refine XS.iload X6_12.here hx rfl (hb hby at_126) rfl ?_
      show Steps p.tables e below (T6_12.setTop (mkF m 128 #[.val (.long q1), .second, .val (.long q2), .second, .val (.long q3), .second, .val (.long q4), .second, .val (.int p5), .val (.int (1 : Int32)), .val (.ref b6_8), .val (.ref b7_8), .val (.int ex), .val (.int (own_meet (1 : Int32) q1 q3 q2 q4)), .unset] [(.int (1 : Int32))])) _
      refine XS.iconst X6_12.here hx rfl (hb hby at_128) ?_
      show Steps p.tables e below (T6_12.setTop (mkF m 129 #[.val (.long q1), .second, .val (.long q2), .second, .val (.long q3), .second, .val (.long q4), .second, .val (.int p5), .val (.int (1 : Int32)), .val (.ref b6_8), .val (.ref b7_8), .val (.int ex), .val (.int (own_meet (1 : Int32) q1 q3 q2 q4)), .unset] [(.int (2 : Int32)), (.int (1 : Int32))])) _
      refine XS.icmpYes X6_12.here hx rfl (pc0 := 129) (pc' := 151) rfl (hb hby at_129) rfl (tlt hc129_13).1 (by decide) (by decide) ?_
      show Steps p.tables e below (T6_12.setTop (mkF m 151 #[.val (.long q1), .second, .val (.long q2), .second, .val (.long q3), .second, .val (.long q4), .second, .val (.int p5), .val (.int (1 : Int32)), .val (.ref b6_8), .val (.ref b7_8), .val (.int ex), .val (.int (own_meet (1 : Int32) q1 q3 q2 q4)), .unset] [])) _
      refine XS.iconst X6_12.here hx rfl (hb hby at_151) ?_
      show Steps p.tables e below (T6_12.setTop (mkF m 152 #[.val (.long q1), .second, .val (.long q2), .second, .val (.long q3), .second, .val (.long q4), .second, .val (.int p5), .val (.int (1 : Int32)), .val (.ref b6_8), .val (.ref b7_8), .val (.int ex), .val (.int (own_meet (1 : Int32) q1 q3 q2 q4)), .unset] [(.int (1 : Int32))])) _
      refine XS.goto X6_12.here hx rfl (pc0 := 152) (pc' := 156) rfl (hb hby at_152) (by decide) (by decide) ?_
      show Steps p.tables e below (T6_12.setTop (mkF m 156 #[.val (.long q1), .second, .val (.long q2), .second, .val (.long q3), .second, .val (.long q4), .second, .val (.int p5), .val (.int (1 : Int32)), .val (.ref b6_8), .val (.ref b7_8), .val (.int ex), .val (.int (own_meet (1 : Int32) q1 q3 q2 q4)), .unset] [(.int (1 : Int32))])) _
      refine XS.istore X6_12.here hx rfl (hb hby at_156) rfl (l' := #[.val (.long q1), .second, .val (.long q2), .second, .val (.long q3), .second, .val (.long q4), .second, .val (.int p5), .val (.int (1 : Int32)), .val (.ref b6_8), .val (.ref b7_8), .val (.int ex), .val (.int (own_meet (1 : Int32) q1 q3 q2 q4)), .val (.int (1 : Int32))]) rfl ?_
      exact kt
    have hc162_14 : (own_meet (1 : Int32) q1 q3 q2 q4) = ex := hex.symm
    have hc167_14 : ¬ ((1 : Int32) = (0 : Int32)) := (by decide)
    have st_14p : ∀ target, Steps p.tables e below (T6_12.setTop (mkF m 175 #[.val (.long q1), .second, .val (.long q2), .second, .val (.long q3), .second, .val (.long q4), .second, .val (.int p5), .val (.int (1 : Int32)), .val (.ref b6_8), .val (.ref b7_8), .val (.int ex), .val (.int (own_meet (1 : Int32) q1 q3 q2 q4)), .val (.int (1 : Int32))] [(.int (1 : Int32))])) target → Steps p.tables e below (T6_12.setTop (mkF m 158 #[.val (.long q1), .second, .val (.long q2), .second, .val (.long q3), .second, .val (.long q4), .second, .val (.int p5), .val (.int (1 : Int32)), .val (.ref b6_8), .val (.ref b7_8), .val (.int ex), .val (.int (own_meet (1 : Int32) q1 q3 q2 q4)), .val (.int (1 : Int32))] [])) target := by
      intro target kt
      show Steps p.tables e below (T6_12.setTop (mkF m 158 #[.val (.long q1), .second, .val (.long q2), .second, .val (.long q3), .second, .val (.long q4), .second, .val (.int p5), .val (.int (1 : Int32)), .val (.ref b6_8), .val (.ref b7_8), .val (.int ex), .val (.int (own_meet (1 : Int32) q1 q3 q2 q4)), .val (.int (1 : Int32))] [])) _
      refine XS.iload X6_12.here hx rfl (hb hby at_158) rfl ?_
      show Steps p.tables e below (T6_12.setTop (mkF m 160 #[.val (.long q1), .second, .val (.long q2), .second, .val (.long q3), .second, .val (.long q4), .second, .val (.int p5), .val (.int (1 : Int32)), .val (.ref b6_8), .val (.ref b7_8), .val (.int ex), .val (.int (own_meet (1 : Int32) q1 q3 q2 q4)), .val (.int (1 : Int32))] [(.int (own_meet (1 : Int32) q1 q3 q2 q4))])) _
      refine XS.iload X6_12.here hx rfl (hb hby at_160) rfl ?_
      show Steps p.tables e below (T6_12.setTop (mkF m 162 #[.val (.long q1), .second, .val (.long q2), .second, .val (.long q3), .second, .val (.long q4), .second, .val (.int p5), .val (.int (1 : Int32)), .val (.ref b6_8), .val (.ref b7_8), .val (.int ex), .val (.int (own_meet (1 : Int32) q1 q3 q2 q4)), .val (.int (1 : Int32))] [(.int ex), (.int (own_meet (1 : Int32) q1 q3 q2 q4))])) _
      refine XS.icmpNo X6_12.here hx rfl (hb hby at_162) rfl (teq hc162_14).2 ?_
      show Steps p.tables e below (T6_12.setTop (mkF m 165 #[.val (.long q1), .second, .val (.long q2), .second, .val (.long q3), .second, .val (.long q4), .second, .val (.int p5), .val (.int (1 : Int32)), .val (.ref b6_8), .val (.ref b7_8), .val (.int ex), .val (.int (own_meet (1 : Int32) q1 q3 q2 q4)), .val (.int (1 : Int32))] [])) _
      refine XS.iload X6_12.here hx rfl (hb hby at_165) rfl ?_
      show Steps p.tables e below (T6_12.setTop (mkF m 167 #[.val (.long q1), .second, .val (.long q2), .second, .val (.long q3), .second, .val (.long q4), .second, .val (.int p5), .val (.int (1 : Int32)), .val (.ref b6_8), .val (.ref b7_8), .val (.int ex), .val (.int (own_meet (1 : Int32) q1 q3 q2 q4)), .val (.int (1 : Int32))] [(.int (1 : Int32))])) _
      refine XS.ifNo X6_12.here hx rfl (hb hby at_167) rfl ((if0 _ _).trans (feq hc167_14).1) ?_
      show Steps p.tables e below (T6_12.setTop (mkF m 170 #[.val (.long q1), .second, .val (.long q2), .second, .val (.long q3), .second, .val (.long q4), .second, .val (.int p5), .val (.int (1 : Int32)), .val (.ref b6_8), .val (.ref b7_8), .val (.int ex), .val (.int (own_meet (1 : Int32) q1 q3 q2 q4)), .val (.int (1 : Int32))] [])) _
      refine XS.iconst X6_12.here hx rfl (hb hby at_170) ?_
      show Steps p.tables e below (T6_12.setTop (mkF m 171 #[.val (.long q1), .second, .val (.long q2), .second, .val (.long q3), .second, .val (.long q4), .second, .val (.int p5), .val (.int (1 : Int32)), .val (.ref b6_8), .val (.ref b7_8), .val (.int ex), .val (.int (own_meet (1 : Int32) q1 q3 q2 q4)), .val (.int (1 : Int32))] [(.int (1 : Int32))])) _
      refine XS.goto X6_12.here hx rfl (pc0 := 171) (pc' := 175) rfl (hb hby at_171) (by decide) (by decide) ?_
      exact kt
    obtain ⟨fs, hr, hrun, hended, hW, hsame⟩ := X6_12.leave (v := some (.int (1 : Int32))) (fun h => by rw [Bd.returns] at h; cases h)
    refine ⟨_, _, pre0 _ ?_, hrun, hended, _, _, rfl, ?_, ⟨_, rfl⟩, hW, hsame.mono (by decide) (by decide)⟩
    · show Steps p.tables e below (s₁.setTop (mkF m 0 #[.val (.long q1), .second, .val (.long q2), .second, .val (.long q3), .second, .val (.long q4), .second, .val (.int p5), .unset, .unset, .unset, .unset, .unset, .unset] [])) _
      refine st_1p _ ?_
      refine st_8p _ ?_
      refine st_11p _ ?_
      refine st_12p _ ?_
      refine st_13p _ ?_
      refine st_14p _ ?_
      exact retN X6_12 hx (t := .boolean) Bd.returns (by simp) (hb hby at_175) hr
    · show Q0 Z q1 q2 q3 q4 p5 h0 n0 _ T6_12.heap _
      rw [gq_12]
      exact ⟨rfl, N6_12⟩
  · have hc24_15 : ¬ ((2 : Int32) < (1 : Int32)) := (by decide)
    have hc41_15 : ¬ ((2 : Int32) < (2 : Int32)) := (by decide)
    obtain ⟨T6_15, h6_15, k6_15, X6_15, e6_15, E6_15, A6_15, st6_15⟩ := newP X0 hx hZ (hw _ (List.mem_of_getElem? (i := 1) rfl)) e0 (g := (mkF m 11 #[.val (.long q1), .second, .val (.long q2), .second, .val (.long q3), .second, .val (.long q4), .second, .val (.int p5), .val (.int (2 : Int32)), .unset, .unset, .unset, .unset, .unset] [(.int (2 : Int32))])) rfl (hb hby at_11) rfl (by decide) (cap := 2) (by decide) (by decide) (by decide) (by decide)
    obtain ⟨b6_15, g6_15⟩ : ∃ z, z = h0.size := ⟨_, rfl⟩
    rw [← g6_15] at A6_15 st6_15
    have V_b6_15 : Arv Z h6_15 b6_15 k6_15 .long (2 : Int32) [.long 0, .long 0] (.long 0) := (Arv.new A6_15 (by decide)).pad (pad_rep [] (.long 0) 2)
    have g_b6_15 : n0 ≤ b6_15 := Nat.le_trans Z0 (Nat.le_of_eq g6_15.symm)
    have sz_b6_15 : h0.size ≤ b6_15 := (Nat.le_trans (Keep.refl h0 []).1 (Nat.le_of_eq g6_15.symm))
    have K6_15 : Keep h0 h6_15 [] := (Keep.refl h0 []).ext E6_15
    obtain ⟨T7_15, h7_15, k7_15, X7_15, e7_15, E7_15, A7_15, st7_15⟩ := newP X6_15 hx hZ (hw _ (List.mem_of_getElem? (i := 1) rfl)) e6_15 (g := (mkF m 17 #[.val (.long q1), .second, .val (.long q2), .second, .val (.long q3), .second, .val (.long q4), .second, .val (.int p5), .val (.int (2 : Int32)), .val (.ref b6_15), .unset, .unset, .unset, .unset] [(.int (2 : Int32))])) rfl (hb hby at_17) rfl (by decide) (cap := 2) (by decide) (by decide) (by decide) (by decide)
    obtain ⟨b7_15, g7_15⟩ : ∃ z, z = h6_15.size := ⟨_, rfl⟩
    rw [← g7_15] at A7_15 st7_15
    have V_b7_15 : Arv Z h7_15 b7_15 k7_15 .long (2 : Int32) [.long 0, .long 0] (.long 0) := (Arv.new A7_15 (by decide)).pad (pad_rep [] (.long 0) 2)
    have g_b7_15 : n0 ≤ b7_15 := Nat.le_trans (Nat.le_trans Z0 E6_15.1) (Nat.le_of_eq g7_15.symm)
    have sz_b7_15 : h0.size ≤ b7_15 := (Nat.le_trans K6_15.1 (Nat.le_of_eq g7_15.symm))
    have K7_15 : Keep h0 h7_15 [] := K6_15.ext E7_15
    obtain ⟨cl_b6_31_15, Ar_b6_15, q_b6_15, S_b6_15, N_b6_15, H_b6_15, G_b6_15⟩ := (V_b6_15.ext E7_15)
    have hin31_15 : ¬ ((0 : Int32) < 0 ∨ cl_b6_31_15.slots.size ≤ ((0 : Int32)).toNatClampNeg) := inb_of S_b6_15 ⟨by decide, by decide⟩
    obtain ⟨T8_15, h8_15, X8_15, e8_15, W8_15, st8_15⟩ := stJ X7_15 hx hZ e7_15 Ar_b6_15 (j := (0 : Int32)) hin31_15 (g := (mkF m 31 #[.val (.long q1), .second, .val (.long q2), .second, .val (.long q3), .second, .val (.long q4), .second, .val (.int p5), .val (.int (2 : Int32)), .val (.ref b6_15), .val (.ref b7_15), .unset, .unset, .unset] [(.long q1), (.int (0 : Int32)), (.ref b6_15)])) rfl rfl (hb hby at_31)
    have V_b6_8_15 := Arv.set Ar_b6_15 q_b6_15 S_b6_15 N_b6_15 H_b6_15 G_b6_15 rfl W8_15 0 rfl (Nat.le_of_ble_eq_true rfl)
    have K8_15 : Keep h0 h8_15 [] := K7_15.wr W8_15 (Or.inr sz_b6_15)
    have N8_15 := Fr.snoc X8_15 N0 g_b6_15
    obtain ⟨cl_b7_37_15, Ar_b7_15, q_b7_15, S_b7_15, N_b7_15, H_b7_15, G_b7_15⟩ := (V_b7_15.other W8_15 (Ne.symm (by rw [g7_15]; exact Nat.ne_of_lt V_b6_15.lt : b6_15 ≠ b7_15)))
    have hin37_15 : ¬ ((0 : Int32) < 0 ∨ cl_b7_37_15.slots.size ≤ ((0 : Int32)).toNatClampNeg) := inb_of S_b7_15 ⟨by decide, by decide⟩
    obtain ⟨T9_15, h9_15, X9_15, e9_15, W9_15, st9_15⟩ := stJ X8_15 hx hZ e8_15 Ar_b7_15 (j := (0 : Int32)) hin37_15 (g := (mkF m 37 #[.val (.long q1), .second, .val (.long q2), .second, .val (.long q3), .second, .val (.long q4), .second, .val (.int p5), .val (.int (2 : Int32)), .val (.ref b6_15), .val (.ref b7_15), .unset, .unset, .unset] [(.long q3), (.int (0 : Int32)), (.ref b7_15)])) rfl rfl (hb hby at_37)
    have V_b7_9_15 := Arv.set Ar_b7_15 q_b7_15 S_b7_15 N_b7_15 H_b7_15 G_b7_15 rfl W9_15 0 rfl (Nat.le_of_ble_eq_true rfl)
    have K9_15 : Keep h0 h9_15 [] := K8_15.wr W9_15 (Or.inr sz_b7_15)
    have N9_15 := Fr.snoc X9_15 N8_15 g_b7_15
    obtain ⟨cl_b6_48_15, Ar_b6_15, q_b6_15, S_b6_15, N_b6_15, H_b6_15, G_b6_15⟩ := (V_b6_8_15.other W9_15 (by rw [g7_15]; exact Nat.ne_of_lt V_b6_15.lt : b6_15 ≠ b7_15))
    have hin48_15 : ¬ ((1 : Int32) < 0 ∨ cl_b6_48_15.slots.size ≤ ((1 : Int32)).toNatClampNeg) := inb_of S_b6_15 ⟨by decide, by decide⟩
    obtain ⟨T10_15, h10_15, X10_15, e10_15, W10_15, st10_15⟩ := stJ X9_15 hx hZ e9_15 Ar_b6_15 (j := (1 : Int32)) hin48_15 (g := (mkF m 48 #[.val (.long q1), .second, .val (.long q2), .second, .val (.long q3), .second, .val (.long q4), .second, .val (.int p5), .val (.int (2 : Int32)), .val (.ref b6_15), .val (.ref b7_15), .unset, .unset, .unset] [(.long q2), (.int (1 : Int32)), (.ref b6_15)])) rfl rfl (hb hby at_48)
    have V_b6_10_15 := Arv.set Ar_b6_15 q_b6_15 S_b6_15 N_b6_15 H_b6_15 G_b6_15 rfl W10_15 1 rfl (Nat.le_of_ble_eq_true rfl)
    have K10_15 : Keep h0 h10_15 [] := K9_15.wr W10_15 (Or.inr sz_b6_15)
    have N10_15 := Fr.snoc X10_15 N9_15 g_b6_15
    obtain ⟨cl_b7_54_15, Ar_b7_15, q_b7_15, S_b7_15, N_b7_15, H_b7_15, G_b7_15⟩ := (V_b7_9_15.other W10_15 (Ne.symm (by rw [g7_15]; exact Nat.ne_of_lt V_b6_15.lt : b6_15 ≠ b7_15)))
    have hin54_15 : ¬ ((1 : Int32) < 0 ∨ cl_b7_54_15.slots.size ≤ ((1 : Int32)).toNatClampNeg) := inb_of S_b7_15 ⟨by decide, by decide⟩
    obtain ⟨T11_15, h11_15, X11_15, e11_15, W11_15, st11_15⟩ := stJ X10_15 hx hZ e10_15 Ar_b7_15 (j := (1 : Int32)) hin54_15 (g := (mkF m 54 #[.val (.long q1), .second, .val (.long q2), .second, .val (.long q3), .second, .val (.long q4), .second, .val (.int p5), .val (.int (2 : Int32)), .val (.ref b6_15), .val (.ref b7_15), .unset, .unset, .unset] [(.long q4), (.int (1 : Int32)), (.ref b7_15)])) rfl rfl (hb hby at_54)
    have V_b7_11_15 := Arv.set Ar_b7_15 q_b7_15 S_b7_15 N_b7_15 H_b7_15 G_b7_15 rfl W11_15 1 rfl (Nat.le_of_ble_eq_true rfl)
    have K11_15 : Keep h0 h11_15 [] := K10_15.wr W11_15 (Or.inr sz_b7_15)
    have N11_15 := Fr.snoc X11_15 N10_15 g_b7_15
    have st_15p : ∀ target, Steps p.tables e below (T11_15.setTop (mkF m 55 #[.val (.long q1), .second, .val (.long q2), .second, .val (.long q3), .second, .val (.long q4), .second, .val (.int p5), .val (.int (2 : Int32)), .val (.ref b6_15), .val (.ref b7_15), .unset, .unset, .unset] [])) target → Steps p.tables e below (s₁.setTop (mkF m 9 #[.val (.long q1), .second, .val (.long q2), .second, .val (.long q3), .second, .val (.long q4), .second, .val (.int p5), .val (.int (2 : Int32)), .unset, .unset, .unset, .unset, .unset] [])) target := by
      intro target kt
      show Steps p.tables e below (s₁.setTop (mkF m 9 #[.val (.long q1), .second, .val (.long q2), .second, .val (.long q3), .second, .val (.long q4), .second, .val (.int p5), .val (.int (2 : Int32)), .unset, .unset, .unset, .unset, .unset] [])) _
      refine XS.iload X0.here hx rfl (hb hby at_9) rfl ?_
      show Steps p.tables e below (s₁.setTop (mkF m 11 #[.val (.long q1), .second, .val (.long q2), .second, .val (.long q3), .second, .val (.long q4), .second, .val (.int p5), .val (.int (2 : Int32)), .unset, .unset, .unset, .unset, .unset] [(.int (2 : Int32))])) _
      refine st6_15 _ ?_
      show Steps p.tables e below (T6_15.setTop (mkF m 13 #[.val (.long q1), .second, .val (.long q2), .second, .val (.long q3), .second, .val (.long q4), .second, .val (.int p5), .val (.int (2 : Int32)), .unset, .unset, .unset, .unset, .unset] [(.ref b6_15)])) _
      refine XS.astore X6_15.here hx rfl (hb hby at_13) rfl rfl (l' := #[.val (.long q1), .second, .val (.long q2), .second, .val (.long q3), .second, .val (.long q4), .second, .val (.int p5), .val (.int (2 : Int32)), .val (.ref b6_15), .unset, .unset, .unset, .unset]) rfl ?_
      show Steps p.tables e below (T6_15.setTop (mkF m 15 #[.val (.long q1), .second, .val (.long q2), .second, .val (.long q3), .second, .val (.long q4), .second, .val (.int p5), .val (.int (2 : Int32)), .val (.ref b6_15), .unset, .unset, .unset, .unset] [])) _
      refine XS.iload X6_15.here hx rfl (hb hby at_15) rfl ?_
      show Steps p.tables e below (T6_15.setTop (mkF m 17 #[.val (.long q1), .second, .val (.long q2), .second, .val (.long q3), .second, .val (.long q4), .second, .val (.int p5), .val (.int (2 : Int32)), .val (.ref b6_15), .unset, .unset, .unset, .unset] [(.int (2 : Int32))])) _
      refine st7_15 _ ?_
      show Steps p.tables e below (T7_15.setTop (mkF m 19 #[.val (.long q1), .second, .val (.long q2), .second, .val (.long q3), .second, .val (.long q4), .second, .val (.int p5), .val (.int (2 : Int32)), .val (.ref b6_15), .unset, .unset, .unset, .unset] [(.ref b7_15)])) _
      refine XS.astore X7_15.here hx rfl (hb hby at_19) rfl rfl (l' := #[.val (.long q1), .second, .val (.long q2), .second, .val (.long q3), .second, .val (.long q4), .second, .val (.int p5), .val (.int (2 : Int32)), .val (.ref b6_15), .val (.ref b7_15), .unset, .unset, .unset]) rfl ?_
      show Steps p.tables e below (T7_15.setTop (mkF m 21 #[.val (.long q1), .second, .val (.long q2), .second, .val (.long q3), .second, .val (.long q4), .second, .val (.int p5), .val (.int (2 : Int32)), .val (.ref b6_15), .val (.ref b7_15), .unset, .unset, .unset] [])) _
      refine XS.iload X7_15.here hx rfl (hb hby at_21) rfl ?_
      show Steps p.tables e below (T7_15.setTop (mkF m 23 #[.val (.long q1), .second, .val (.long q2), .second, .val (.long q3), .second, .val (.long q4), .second, .val (.int p5), .val (.int (2 : Int32)), .val (.ref b6_15), .val (.ref b7_15), .unset, .unset, .unset] [(.int (2 : Int32))])) _
      refine XS.iconst X7_15.here hx rfl (hb hby at_23) ?_
      show Steps p.tables e below (T7_15.setTop (mkF m 24 #[.val (.long q1), .second, .val (.long q2), .second, .val (.long q3), .second, .val (.long q4), .second, .val (.int p5), .val (.int (2 : Int32)), .val (.ref b6_15), .val (.ref b7_15), .unset, .unset, .unset] [(.int (1 : Int32)), (.int (2 : Int32))])) _
      refine XS.icmpNo X7_15.here hx rfl (hb hby at_24) rfl (flt hc24_15).1 ?_
      show Steps p.tables e below (T7_15.setTop (mkF m 27 #[.val (.long q1), .second, .val (.long q2), .second, .val (.long q3), .second, .val (.long q4), .second, .val (.int p5), .val (.int (2 : Int32)), .val (.ref b6_15), .val (.ref b7_15), .unset, .unset, .unset] [])) _
      refine XS.aload X7_15.here hx rfl (hb hby at_27) rfl rfl ?_
      show Steps p.tables e below (T7_15.setTop (mkF m 29 #[.val (.long q1), .second, .val (.long q2), .second, .val (.long q3), .second, .val (.long q4), .second, .val (.int p5), .val (.int (2 : Int32)), .val (.ref b6_15), .val (.ref b7_15), .unset, .unset, .unset] [(.ref b6_15)])) _
      refine XS.iconst X7_15.here hx rfl (hb hby at_29) ?_
      show Steps p.tables e below (T7_15.setTop (mkF m 30 #[.val (.long q1), .second, .val (.long q2), .second, .val (.long q3), .second, .val (.long q4), .second, .val (.int p5), .val (.int (2 : Int32)), .val (.ref b6_15), .val (.ref b7_15), .unset, .unset, .unset] [(.int (0 : Int32)), (.ref b6_15)])) _
      refine XS.lloadN X7_15.here hx rfl (hb hby at_30) rfl ?_
      show Steps p.tables e below (T7_15.setTop (mkF m 31 #[.val (.long q1), .second, .val (.long q2), .second, .val (.long q3), .second, .val (.long q4), .second, .val (.int p5), .val (.int (2 : Int32)), .val (.ref b6_15), .val (.ref b7_15), .unset, .unset, .unset] [(.long q1), (.int (0 : Int32)), (.ref b6_15)])) _
      refine st8_15 _ ?_
      show Steps p.tables e below (T8_15.setTop (mkF m 32 #[.val (.long q1), .second, .val (.long q2), .second, .val (.long q3), .second, .val (.long q4), .second, .val (.int p5), .val (.int (2 : Int32)), .val (.ref b6_15), .val (.ref b7_15), .unset, .unset, .unset] [])) _
      refine XS.aload X8_15.here hx rfl (hb hby at_32) rfl rfl ?_
      show Steps p.tables e below (T8_15.setTop (mkF m 34 #[.val (.long q1), .second, .val (.long q2), .second, .val (.long q3), .second, .val (.long q4), .second, .val (.int p5), .val (.int (2 : Int32)), .val (.ref b6_15), .val (.ref b7_15), .unset, .unset, .unset] [(.ref b7_15)])) _
      refine XS.iconst X8_15.here hx rfl (hb hby at_34) ?_
      show Steps p.tables e below (T8_15.setTop (mkF m 35 #[.val (.long q1), .second, .val (.long q2), .second, .val (.long q3), .second, .val (.long q4), .second, .val (.int p5), .val (.int (2 : Int32)), .val (.ref b6_15), .val (.ref b7_15), .unset, .unset, .unset] [(.int (0 : Int32)), (.ref b7_15)])) _
      refine XS.lload X8_15.here hx rfl (hb hby at_35) rfl ?_
      show Steps p.tables e below (T8_15.setTop (mkF m 37 #[.val (.long q1), .second, .val (.long q2), .second, .val (.long q3), .second, .val (.long q4), .second, .val (.int p5), .val (.int (2 : Int32)), .val (.ref b6_15), .val (.ref b7_15), .unset, .unset, .unset] [(.long q3), (.int (0 : Int32)), (.ref b7_15)])) _
      refine st9_15 _ ?_
      show Steps p.tables e below (T9_15.setTop (mkF m 38 #[.val (.long q1), .second, .val (.long q2), .second, .val (.long q3), .second, .val (.long q4), .second, .val (.int p5), .val (.int (2 : Int32)), .val (.ref b6_15), .val (.ref b7_15), .unset, .unset, .unset] [])) _
      refine XS.iload X9_15.here hx rfl (hb hby at_38) rfl ?_
      show Steps p.tables e below (T9_15.setTop (mkF m 40 #[.val (.long q1), .second, .val (.long q2), .second, .val (.long q3), .second, .val (.long q4), .second, .val (.int p5), .val (.int (2 : Int32)), .val (.ref b6_15), .val (.ref b7_15), .unset, .unset, .unset] [(.int (2 : Int32))])) _
      refine XS.iconst X9_15.here hx rfl (hb hby at_40) ?_
      show Steps p.tables e below (T9_15.setTop (mkF m 41 #[.val (.long q1), .second, .val (.long q2), .second, .val (.long q3), .second, .val (.long q4), .second, .val (.int p5), .val (.int (2 : Int32)), .val (.ref b6_15), .val (.ref b7_15), .unset, .unset, .unset] [(.int (2 : Int32)), (.int (2 : Int32))])) _
      refine XS.icmpNo X9_15.here hx rfl (hb hby at_41) rfl (flt hc41_15).1 ?_
      show Steps p.tables e below (T9_15.setTop (mkF m 44 #[.val (.long q1), .second, .val (.long q2), .second, .val (.long q3), .second, .val (.long q4), .second, .val (.int p5), .val (.int (2 : Int32)), .val (.ref b6_15), .val (.ref b7_15), .unset, .unset, .unset] [])) _
      refine XS.aload X9_15.here hx rfl (hb hby at_44) rfl rfl ?_
      show Steps p.tables e below (T9_15.setTop (mkF m 46 #[.val (.long q1), .second, .val (.long q2), .second, .val (.long q3), .second, .val (.long q4), .second, .val (.int p5), .val (.int (2 : Int32)), .val (.ref b6_15), .val (.ref b7_15), .unset, .unset, .unset] [(.ref b6_15)])) _
      refine XS.iconst X9_15.here hx rfl (hb hby at_46) ?_
      show Steps p.tables e below (T9_15.setTop (mkF m 47 #[.val (.long q1), .second, .val (.long q2), .second, .val (.long q3), .second, .val (.long q4), .second, .val (.int p5), .val (.int (2 : Int32)), .val (.ref b6_15), .val (.ref b7_15), .unset, .unset, .unset] [(.int (1 : Int32)), (.ref b6_15)])) _
      refine XS.lloadN X9_15.here hx rfl (hb hby at_47) rfl ?_
      show Steps p.tables e below (T9_15.setTop (mkF m 48 #[.val (.long q1), .second, .val (.long q2), .second, .val (.long q3), .second, .val (.long q4), .second, .val (.int p5), .val (.int (2 : Int32)), .val (.ref b6_15), .val (.ref b7_15), .unset, .unset, .unset] [(.long q2), (.int (1 : Int32)), (.ref b6_15)])) _
      refine st10_15 _ ?_
      show Steps p.tables e below (T10_15.setTop (mkF m 49 #[.val (.long q1), .second, .val (.long q2), .second, .val (.long q3), .second, .val (.long q4), .second, .val (.int p5), .val (.int (2 : Int32)), .val (.ref b6_15), .val (.ref b7_15), .unset, .unset, .unset] [])) _
      refine XS.aload X10_15.here hx rfl (hb hby at_49) rfl rfl ?_
      show Steps p.tables e below (T10_15.setTop (mkF m 51 #[.val (.long q1), .second, .val (.long q2), .second, .val (.long q3), .second, .val (.long q4), .second, .val (.int p5), .val (.int (2 : Int32)), .val (.ref b6_15), .val (.ref b7_15), .unset, .unset, .unset] [(.ref b7_15)])) _
      refine XS.iconst X10_15.here hx rfl (hb hby at_51) ?_
      show Steps p.tables e below (T10_15.setTop (mkF m 52 #[.val (.long q1), .second, .val (.long q2), .second, .val (.long q3), .second, .val (.long q4), .second, .val (.int p5), .val (.int (2 : Int32)), .val (.ref b6_15), .val (.ref b7_15), .unset, .unset, .unset] [(.int (1 : Int32)), (.ref b7_15)])) _
      refine XS.lload X10_15.here hx rfl (hb hby at_52) rfl ?_
      show Steps p.tables e below (T10_15.setTop (mkF m 54 #[.val (.long q1), .second, .val (.long q2), .second, .val (.long q3), .second, .val (.long q4), .second, .val (.int p5), .val (.int (2 : Int32)), .val (.ref b6_15), .val (.ref b7_15), .unset, .unset, .unset] [(.long q4), (.int (1 : Int32)), (.ref b7_15)])) _
      refine st11_15 _ ?_
      exact kt
    have Va : Arv Z h11_15 b6_15 k6_15 .long (2 : Int32) [.long q1, .long q2] (.long 0) := V_b6_10_15.other W11_15 (by rw [g7_15]; exact Nat.ne_of_lt V_b6_15.lt : b6_15 ≠ b7_15)
    have Vb : Arv Z h11_15 b7_15 k7_15 .long (2 : Int32) [.long q3, .long q4] (.long 0) := V_b7_11_15
    have Zc : n0 ≤ h11_15.size := Nat.le_trans Z0 K11_15.1
    obtain ⟨ex, hex, st_19p⟩ : ∃ (ex : Int32), (ex = own_meet (2 : Int32) q1 q3 q2 q4) ∧ ∀ target, Steps p.tables e below (T11_15.setTop (mkF m 92 #[.val (.long q1), .second, .val (.long q2), .second, .val (.long q3), .second, .val (.long q4), .second, .val (.int p5), .val (.int (2 : Int32)), .val (.ref b6_15), .val (.ref b7_15), .val (.int ex), .unset, .unset] [])) target → Steps p.tables e below (T11_15.setTop (mkF m 55 #[.val (.long q1), .second, .val (.long q2), .second, .val (.long q3), .second, .val (.long q4), .second, .val (.int p5), .val (.int (2 : Int32)), .val (.ref b6_15), .val (.ref b7_15), .unset, .unset, .unset] [])) target := by
      by_cases hc58 : (2 : Int32) < (1 : Int32)
      · exact absurd hc58 (by decide)
      · by_cases hc67 : (lcmpW (q1 &&& q3) (0 : Int64)) = (0 : Int32)
        · by_cases hc73 : (2 : Int32) < (2 : Int32)
          · exact absurd hc73 (by decide)
          · by_cases hc82 : (lcmpW (q2 &&& q4) (0 : Int64)) = (0 : Int32)
            · refine ⟨(0 : Int32), by have u : (q1 &&& q3) = 0 := ((lw_eq _ _).mp hc67); have w : (q2 &&& q4) = 0 := ((lw_eq _ _).mp hc82); simp [own_meet, u, w], fun target kt => ?_⟩
              show Steps p.tables e below (T11_15.setTop (mkF m 55 #[.val (.long q1), .second, .val (.long q2), .second, .val (.long q3), .second, .val (.long q4), .second, .val (.int p5), .val (.int (2 : Int32)), .val (.ref b6_15), .val (.ref b7_15), .unset, .unset, .unset] [])) _
              refine XS.iload X11_15.here hx rfl (hb hby at_55) rfl ?_
              show Steps p.tables e below (T11_15.setTop (mkF m 57 #[.val (.long q1), .second, .val (.long q2), .second, .val (.long q3), .second, .val (.long q4), .second, .val (.int p5), .val (.int (2 : Int32)), .val (.ref b6_15), .val (.ref b7_15), .unset, .unset, .unset] [(.int (2 : Int32))])) _
              refine XS.iconst X11_15.here hx rfl (hb hby at_57) ?_
              show Steps p.tables e below (T11_15.setTop (mkF m 58 #[.val (.long q1), .second, .val (.long q2), .second, .val (.long q3), .second, .val (.long q4), .second, .val (.int p5), .val (.int (2 : Int32)), .val (.ref b6_15), .val (.ref b7_15), .unset, .unset, .unset] [(.int (1 : Int32)), (.int (2 : Int32))])) _
              refine XS.icmpNo X11_15.here hx rfl (hb hby at_58) rfl (flt hc58).1 ?_
              show Steps p.tables e below (T11_15.setTop (mkF m 61 #[.val (.long q1), .second, .val (.long q2), .second, .val (.long q3), .second, .val (.long q4), .second, .val (.int p5), .val (.int (2 : Int32)), .val (.ref b6_15), .val (.ref b7_15), .unset, .unset, .unset] [])) _
              refine XS.lloadN X11_15.here hx rfl (hb hby at_61) rfl ?_
              show Steps p.tables e below (T11_15.setTop (mkF m 62 #[.val (.long q1), .second, .val (.long q2), .second, .val (.long q3), .second, .val (.long q4), .second, .val (.int p5), .val (.int (2 : Int32)), .val (.ref b6_15), .val (.ref b7_15), .unset, .unset, .unset] [(.long q1)])) _
              refine XS.lload X11_15.here hx rfl (hb hby at_62) rfl ?_
              show Steps p.tables e below (T11_15.setTop (mkF m 64 #[.val (.long q1), .second, .val (.long q2), .second, .val (.long q3), .second, .val (.long q4), .second, .val (.int p5), .val (.int (2 : Int32)), .val (.ref b6_15), .val (.ref b7_15), .unset, .unset, .unset] [(.long q3), (.long q1)])) _
              refine XS.land X11_15.here hx rfl (hb hby at_64) rfl ?_
              show Steps p.tables e below (T11_15.setTop (mkF m 65 #[.val (.long q1), .second, .val (.long q2), .second, .val (.long q3), .second, .val (.long q4), .second, .val (.int p5), .val (.int (2 : Int32)), .val (.ref b6_15), .val (.ref b7_15), .unset, .unset, .unset] [(.long (q1 &&& q3))])) _
              refine XS.lconst X11_15.here hx rfl (hb hby at_65) ?_
              show Steps p.tables e below (T11_15.setTop (mkF m 66 #[.val (.long q1), .second, .val (.long q2), .second, .val (.long q3), .second, .val (.long q4), .second, .val (.int p5), .val (.int (2 : Int32)), .val (.ref b6_15), .val (.ref b7_15), .unset, .unset, .unset] [(.long (0 : Int64)), (.long (q1 &&& q3))])) _
              refine XS.lcmp X11_15.here hx rfl (hb hby at_66) rfl ?_
              show Steps p.tables e below (T11_15.setTop (mkF m 67 #[.val (.long q1), .second, .val (.long q2), .second, .val (.long q3), .second, .val (.long q4), .second, .val (.int p5), .val (.int (2 : Int32)), .val (.ref b6_15), .val (.ref b7_15), .unset, .unset, .unset] [(.int (lcmpW (q1 &&& q3) (0 : Int64)))])) _
              refine XS.ifNo X11_15.here hx rfl (hb hby at_67) rfl ((if0 _ _).trans (teq hc67).2) ?_
              show Steps p.tables e below (T11_15.setTop (mkF m 70 #[.val (.long q1), .second, .val (.long q2), .second, .val (.long q3), .second, .val (.long q4), .second, .val (.int p5), .val (.int (2 : Int32)), .val (.ref b6_15), .val (.ref b7_15), .unset, .unset, .unset] [])) _
              refine XS.iload X11_15.here hx rfl (hb hby at_70) rfl ?_
              show Steps p.tables e below (T11_15.setTop (mkF m 72 #[.val (.long q1), .second, .val (.long q2), .second, .val (.long q3), .second, .val (.long q4), .second, .val (.int p5), .val (.int (2 : Int32)), .val (.ref b6_15), .val (.ref b7_15), .unset, .unset, .unset] [(.int (2 : Int32))])) _
              refine XS.iconst X11_15.here hx rfl (hb hby at_72) ?_
              show Steps p.tables e below (T11_15.setTop (mkF m 73 #[.val (.long q1), .second, .val (.long q2), .second, .val (.long q3), .second, .val (.long q4), .second, .val (.int p5), .val (.int (2 : Int32)), .val (.ref b6_15), .val (.ref b7_15), .unset, .unset, .unset] [(.int (2 : Int32)), (.int (2 : Int32))])) _
              refine XS.icmpNo X11_15.here hx rfl (hb hby at_73) rfl (flt hc73).1 ?_
              show Steps p.tables e below (T11_15.setTop (mkF m 76 #[.val (.long q1), .second, .val (.long q2), .second, .val (.long q3), .second, .val (.long q4), .second, .val (.int p5), .val (.int (2 : Int32)), .val (.ref b6_15), .val (.ref b7_15), .unset, .unset, .unset] [])) _
              refine XS.lloadN X11_15.here hx rfl (hb hby at_76) rfl ?_
              show Steps p.tables e below (T11_15.setTop (mkF m 77 #[.val (.long q1), .second, .val (.long q2), .second, .val (.long q3), .second, .val (.long q4), .second, .val (.int p5), .val (.int (2 : Int32)), .val (.ref b6_15), .val (.ref b7_15), .unset, .unset, .unset] [(.long q2)])) _
              refine XS.lload X11_15.here hx rfl (hb hby at_77) rfl ?_
              show Steps p.tables e below (T11_15.setTop (mkF m 79 #[.val (.long q1), .second, .val (.long q2), .second, .val (.long q3), .second, .val (.long q4), .second, .val (.int p5), .val (.int (2 : Int32)), .val (.ref b6_15), .val (.ref b7_15), .unset, .unset, .unset] [(.long q4), (.long q2)])) _
              refine XS.land X11_15.here hx rfl (hb hby at_79) rfl ?_
              show Steps p.tables e below (T11_15.setTop (mkF m 80 #[.val (.long q1), .second, .val (.long q2), .second, .val (.long q3), .second, .val (.long q4), .second, .val (.int p5), .val (.int (2 : Int32)), .val (.ref b6_15), .val (.ref b7_15), .unset, .unset, .unset] [(.long (q2 &&& q4))])) _
              refine XS.lconst X11_15.here hx rfl (hb hby at_80) ?_
              show Steps p.tables e below (T11_15.setTop (mkF m 81 #[.val (.long q1), .second, .val (.long q2), .second, .val (.long q3), .second, .val (.long q4), .second, .val (.int p5), .val (.int (2 : Int32)), .val (.ref b6_15), .val (.ref b7_15), .unset, .unset, .unset] [(.long (0 : Int64)), (.long (q2 &&& q4))])) _
              refine XS.lcmp X11_15.here hx rfl (hb hby at_81) rfl ?_
              show Steps p.tables e below (T11_15.setTop (mkF m 82 #[.val (.long q1), .second, .val (.long q2), .second, .val (.long q3), .second, .val (.long q4), .second, .val (.int p5), .val (.int (2 : Int32)), .val (.ref b6_15), .val (.ref b7_15), .unset, .unset, .unset] [(.int (lcmpW (q2 &&& q4) (0 : Int64)))])) _
              refine XS.ifYes X11_15.here hx rfl (pc0 := 82) (pc' := 89) rfl (hb hby at_82) rfl ((if0 _ _).trans (teq hc82).1) (by decide) (by decide) ?_
              show Steps p.tables e below (T11_15.setTop (mkF m 89 #[.val (.long q1), .second, .val (.long q2), .second, .val (.long q3), .second, .val (.long q4), .second, .val (.int p5), .val (.int (2 : Int32)), .val (.ref b6_15), .val (.ref b7_15), .unset, .unset, .unset] [])) _
              refine XS.iconst X11_15.here hx rfl (hb hby at_89) ?_
              show Steps p.tables e below (T11_15.setTop (mkF m 90 #[.val (.long q1), .second, .val (.long q2), .second, .val (.long q3), .second, .val (.long q4), .second, .val (.int p5), .val (.int (2 : Int32)), .val (.ref b6_15), .val (.ref b7_15), .unset, .unset, .unset] [(.int (0 : Int32))])) _
              refine XS.istore X11_15.here hx rfl (hb hby at_90) rfl (l' := #[.val (.long q1), .second, .val (.long q2), .second, .val (.long q3), .second, .val (.long q4), .second, .val (.int p5), .val (.int (2 : Int32)), .val (.ref b6_15), .val (.ref b7_15), .val (.int (0 : Int32)), .unset, .unset]) rfl ?_
              exact kt
            · refine ⟨(1 : Int32), by have u : (q1 &&& q3) = 0 := ((lw_eq _ _).mp hc67); have w : ¬ (q2 &&& q4) = 0 := (fun q => hc82 ((lw_eq _ _).mpr q)); simp [own_meet, u, w], fun target kt => ?_⟩
              show Steps p.tables e below (T11_15.setTop (mkF m 55 #[.val (.long q1), .second, .val (.long q2), .second, .val (.long q3), .second, .val (.long q4), .second, .val (.int p5), .val (.int (2 : Int32)), .val (.ref b6_15), .val (.ref b7_15), .unset, .unset, .unset] [])) _
              refine XS.iload X11_15.here hx rfl (hb hby at_55) rfl ?_
              show Steps p.tables e below (T11_15.setTop (mkF m 57 #[.val (.long q1), .second, .val (.long q2), .second, .val (.long q3), .second, .val (.long q4), .second, .val (.int p5), .val (.int (2 : Int32)), .val (.ref b6_15), .val (.ref b7_15), .unset, .unset, .unset] [(.int (2 : Int32))])) _
              refine XS.iconst X11_15.here hx rfl (hb hby at_57) ?_
              show Steps p.tables e below (T11_15.setTop (mkF m 58 #[.val (.long q1), .second, .val (.long q2), .second, .val (.long q3), .second, .val (.long q4), .second, .val (.int p5), .val (.int (2 : Int32)), .val (.ref b6_15), .val (.ref b7_15), .unset, .unset, .unset] [(.int (1 : Int32)), (.int (2 : Int32))])) _
              refine XS.icmpNo X11_15.here hx rfl (hb hby at_58) rfl (flt hc58).1 ?_
              show Steps p.tables e below (T11_15.setTop (mkF m 61 #[.val (.long q1), .second, .val (.long q2), .second, .val (.long q3), .second, .val (.long q4), .second, .val (.int p5), .val (.int (2 : Int32)), .val (.ref b6_15), .val (.ref b7_15), .unset, .unset, .unset] [])) _
              refine XS.lloadN X11_15.here hx rfl (hb hby at_61) rfl ?_
              show Steps p.tables e below (T11_15.setTop (mkF m 62 #[.val (.long q1), .second, .val (.long q2), .second, .val (.long q3), .second, .val (.long q4), .second, .val (.int p5), .val (.int (2 : Int32)), .val (.ref b6_15), .val (.ref b7_15), .unset, .unset, .unset] [(.long q1)])) _
              refine XS.lload X11_15.here hx rfl (hb hby at_62) rfl ?_
              show Steps p.tables e below (T11_15.setTop (mkF m 64 #[.val (.long q1), .second, .val (.long q2), .second, .val (.long q3), .second, .val (.long q4), .second, .val (.int p5), .val (.int (2 : Int32)), .val (.ref b6_15), .val (.ref b7_15), .unset, .unset, .unset] [(.long q3), (.long q1)])) _
              refine XS.land X11_15.here hx rfl (hb hby at_64) rfl ?_
              show Steps p.tables e below (T11_15.setTop (mkF m 65 #[.val (.long q1), .second, .val (.long q2), .second, .val (.long q3), .second, .val (.long q4), .second, .val (.int p5), .val (.int (2 : Int32)), .val (.ref b6_15), .val (.ref b7_15), .unset, .unset, .unset] [(.long (q1 &&& q3))])) _
              refine XS.lconst X11_15.here hx rfl (hb hby at_65) ?_
              show Steps p.tables e below (T11_15.setTop (mkF m 66 #[.val (.long q1), .second, .val (.long q2), .second, .val (.long q3), .second, .val (.long q4), .second, .val (.int p5), .val (.int (2 : Int32)), .val (.ref b6_15), .val (.ref b7_15), .unset, .unset, .unset] [(.long (0 : Int64)), (.long (q1 &&& q3))])) _
              refine XS.lcmp X11_15.here hx rfl (hb hby at_66) rfl ?_
              show Steps p.tables e below (T11_15.setTop (mkF m 67 #[.val (.long q1), .second, .val (.long q2), .second, .val (.long q3), .second, .val (.long q4), .second, .val (.int p5), .val (.int (2 : Int32)), .val (.ref b6_15), .val (.ref b7_15), .unset, .unset, .unset] [(.int (lcmpW (q1 &&& q3) (0 : Int64)))])) _
              refine XS.ifNo X11_15.here hx rfl (hb hby at_67) rfl ((if0 _ _).trans (teq hc67).2) ?_
              show Steps p.tables e below (T11_15.setTop (mkF m 70 #[.val (.long q1), .second, .val (.long q2), .second, .val (.long q3), .second, .val (.long q4), .second, .val (.int p5), .val (.int (2 : Int32)), .val (.ref b6_15), .val (.ref b7_15), .unset, .unset, .unset] [])) _
              refine XS.iload X11_15.here hx rfl (hb hby at_70) rfl ?_
              show Steps p.tables e below (T11_15.setTop (mkF m 72 #[.val (.long q1), .second, .val (.long q2), .second, .val (.long q3), .second, .val (.long q4), .second, .val (.int p5), .val (.int (2 : Int32)), .val (.ref b6_15), .val (.ref b7_15), .unset, .unset, .unset] [(.int (2 : Int32))])) _
              refine XS.iconst X11_15.here hx rfl (hb hby at_72) ?_
              show Steps p.tables e below (T11_15.setTop (mkF m 73 #[.val (.long q1), .second, .val (.long q2), .second, .val (.long q3), .second, .val (.long q4), .second, .val (.int p5), .val (.int (2 : Int32)), .val (.ref b6_15), .val (.ref b7_15), .unset, .unset, .unset] [(.int (2 : Int32)), (.int (2 : Int32))])) _
              refine XS.icmpNo X11_15.here hx rfl (hb hby at_73) rfl (flt hc73).1 ?_
              show Steps p.tables e below (T11_15.setTop (mkF m 76 #[.val (.long q1), .second, .val (.long q2), .second, .val (.long q3), .second, .val (.long q4), .second, .val (.int p5), .val (.int (2 : Int32)), .val (.ref b6_15), .val (.ref b7_15), .unset, .unset, .unset] [])) _
              refine XS.lloadN X11_15.here hx rfl (hb hby at_76) rfl ?_
              show Steps p.tables e below (T11_15.setTop (mkF m 77 #[.val (.long q1), .second, .val (.long q2), .second, .val (.long q3), .second, .val (.long q4), .second, .val (.int p5), .val (.int (2 : Int32)), .val (.ref b6_15), .val (.ref b7_15), .unset, .unset, .unset] [(.long q2)])) _
              refine XS.lload X11_15.here hx rfl (hb hby at_77) rfl ?_
              show Steps p.tables e below (T11_15.setTop (mkF m 79 #[.val (.long q1), .second, .val (.long q2), .second, .val (.long q3), .second, .val (.long q4), .second, .val (.int p5), .val (.int (2 : Int32)), .val (.ref b6_15), .val (.ref b7_15), .unset, .unset, .unset] [(.long q4), (.long q2)])) _
              refine XS.land X11_15.here hx rfl (hb hby at_79) rfl ?_
              show Steps p.tables e below (T11_15.setTop (mkF m 80 #[.val (.long q1), .second, .val (.long q2), .second, .val (.long q3), .second, .val (.long q4), .second, .val (.int p5), .val (.int (2 : Int32)), .val (.ref b6_15), .val (.ref b7_15), .unset, .unset, .unset] [(.long (q2 &&& q4))])) _
              refine XS.lconst X11_15.here hx rfl (hb hby at_80) ?_
              show Steps p.tables e below (T11_15.setTop (mkF m 81 #[.val (.long q1), .second, .val (.long q2), .second, .val (.long q3), .second, .val (.long q4), .second, .val (.int p5), .val (.int (2 : Int32)), .val (.ref b6_15), .val (.ref b7_15), .unset, .unset, .unset] [(.long (0 : Int64)), (.long (q2 &&& q4))])) _
              refine XS.lcmp X11_15.here hx rfl (hb hby at_81) rfl ?_
              show Steps p.tables e below (T11_15.setTop (mkF m 82 #[.val (.long q1), .second, .val (.long q2), .second, .val (.long q3), .second, .val (.long q4), .second, .val (.int p5), .val (.int (2 : Int32)), .val (.ref b6_15), .val (.ref b7_15), .unset, .unset, .unset] [(.int (lcmpW (q2 &&& q4) (0 : Int64)))])) _
              refine XS.ifNo X11_15.here hx rfl (hb hby at_82) rfl ((if0 _ _).trans (feq hc82).1) ?_
              show Steps p.tables e below (T11_15.setTop (mkF m 85 #[.val (.long q1), .second, .val (.long q2), .second, .val (.long q3), .second, .val (.long q4), .second, .val (.int p5), .val (.int (2 : Int32)), .val (.ref b6_15), .val (.ref b7_15), .unset, .unset, .unset] [])) _
              refine XS.iconst X11_15.here hx rfl (hb hby at_85) ?_
              show Steps p.tables e below (T11_15.setTop (mkF m 86 #[.val (.long q1), .second, .val (.long q2), .second, .val (.long q3), .second, .val (.long q4), .second, .val (.int p5), .val (.int (2 : Int32)), .val (.ref b6_15), .val (.ref b7_15), .unset, .unset, .unset] [(.int (1 : Int32))])) _
              refine XS.goto X11_15.here hx rfl (pc0 := 86) (pc' := 90) rfl (hb hby at_86) (by decide) (by decide) ?_
              show Steps p.tables e below (T11_15.setTop (mkF m 90 #[.val (.long q1), .second, .val (.long q2), .second, .val (.long q3), .second, .val (.long q4), .second, .val (.int p5), .val (.int (2 : Int32)), .val (.ref b6_15), .val (.ref b7_15), .unset, .unset, .unset] [(.int (1 : Int32))])) _
              refine XS.istore X11_15.here hx rfl (hb hby at_90) rfl (l' := #[.val (.long q1), .second, .val (.long q2), .second, .val (.long q3), .second, .val (.long q4), .second, .val (.int p5), .val (.int (2 : Int32)), .val (.ref b6_15), .val (.ref b7_15), .val (.int (1 : Int32)), .unset, .unset]) rfl ?_
              exact kt
        · refine ⟨(1 : Int32), by have u : ¬ (q1 &&& q3) = 0 := (fun q => hc67 ((lw_eq _ _).mpr q)); simp [own_meet, u], fun target kt => ?_⟩
          show Steps p.tables e below (T11_15.setTop (mkF m 55 #[.val (.long q1), .second, .val (.long q2), .second, .val (.long q3), .second, .val (.long q4), .second, .val (.int p5), .val (.int (2 : Int32)), .val (.ref b6_15), .val (.ref b7_15), .unset, .unset, .unset] [])) _
          refine XS.iload X11_15.here hx rfl (hb hby at_55) rfl ?_
          show Steps p.tables e below (T11_15.setTop (mkF m 57 #[.val (.long q1), .second, .val (.long q2), .second, .val (.long q3), .second, .val (.long q4), .second, .val (.int p5), .val (.int (2 : Int32)), .val (.ref b6_15), .val (.ref b7_15), .unset, .unset, .unset] [(.int (2 : Int32))])) _
          refine XS.iconst X11_15.here hx rfl (hb hby at_57) ?_
          show Steps p.tables e below (T11_15.setTop (mkF m 58 #[.val (.long q1), .second, .val (.long q2), .second, .val (.long q3), .second, .val (.long q4), .second, .val (.int p5), .val (.int (2 : Int32)), .val (.ref b6_15), .val (.ref b7_15), .unset, .unset, .unset] [(.int (1 : Int32)), (.int (2 : Int32))])) _
          refine XS.icmpNo X11_15.here hx rfl (hb hby at_58) rfl (flt hc58).1 ?_
          show Steps p.tables e below (T11_15.setTop (mkF m 61 #[.val (.long q1), .second, .val (.long q2), .second, .val (.long q3), .second, .val (.long q4), .second, .val (.int p5), .val (.int (2 : Int32)), .val (.ref b6_15), .val (.ref b7_15), .unset, .unset, .unset] [])) _
          refine XS.lloadN X11_15.here hx rfl (hb hby at_61) rfl ?_
          show Steps p.tables e below (T11_15.setTop (mkF m 62 #[.val (.long q1), .second, .val (.long q2), .second, .val (.long q3), .second, .val (.long q4), .second, .val (.int p5), .val (.int (2 : Int32)), .val (.ref b6_15), .val (.ref b7_15), .unset, .unset, .unset] [(.long q1)])) _
          refine XS.lload X11_15.here hx rfl (hb hby at_62) rfl ?_
          show Steps p.tables e below (T11_15.setTop (mkF m 64 #[.val (.long q1), .second, .val (.long q2), .second, .val (.long q3), .second, .val (.long q4), .second, .val (.int p5), .val (.int (2 : Int32)), .val (.ref b6_15), .val (.ref b7_15), .unset, .unset, .unset] [(.long q3), (.long q1)])) _
          refine XS.land X11_15.here hx rfl (hb hby at_64) rfl ?_
          show Steps p.tables e below (T11_15.setTop (mkF m 65 #[.val (.long q1), .second, .val (.long q2), .second, .val (.long q3), .second, .val (.long q4), .second, .val (.int p5), .val (.int (2 : Int32)), .val (.ref b6_15), .val (.ref b7_15), .unset, .unset, .unset] [(.long (q1 &&& q3))])) _
          refine XS.lconst X11_15.here hx rfl (hb hby at_65) ?_
          show Steps p.tables e below (T11_15.setTop (mkF m 66 #[.val (.long q1), .second, .val (.long q2), .second, .val (.long q3), .second, .val (.long q4), .second, .val (.int p5), .val (.int (2 : Int32)), .val (.ref b6_15), .val (.ref b7_15), .unset, .unset, .unset] [(.long (0 : Int64)), (.long (q1 &&& q3))])) _
          refine XS.lcmp X11_15.here hx rfl (hb hby at_66) rfl ?_
          show Steps p.tables e below (T11_15.setTop (mkF m 67 #[.val (.long q1), .second, .val (.long q2), .second, .val (.long q3), .second, .val (.long q4), .second, .val (.int p5), .val (.int (2 : Int32)), .val (.ref b6_15), .val (.ref b7_15), .unset, .unset, .unset] [(.int (lcmpW (q1 &&& q3) (0 : Int64)))])) _
          refine XS.ifYes X11_15.here hx rfl (pc0 := 67) (pc' := 85) rfl (hb hby at_67) rfl ((if0 _ _).trans (feq hc67).2) (by decide) (by decide) ?_
          show Steps p.tables e below (T11_15.setTop (mkF m 85 #[.val (.long q1), .second, .val (.long q2), .second, .val (.long q3), .second, .val (.long q4), .second, .val (.int p5), .val (.int (2 : Int32)), .val (.ref b6_15), .val (.ref b7_15), .unset, .unset, .unset] [])) _
          refine XS.iconst X11_15.here hx rfl (hb hby at_85) ?_
          show Steps p.tables e below (T11_15.setTop (mkF m 86 #[.val (.long q1), .second, .val (.long q2), .second, .val (.long q3), .second, .val (.long q4), .second, .val (.int p5), .val (.int (2 : Int32)), .val (.ref b6_15), .val (.ref b7_15), .unset, .unset, .unset] [(.int (1 : Int32))])) _
          refine XS.goto X11_15.here hx rfl (pc0 := 86) (pc' := 90) rfl (hb hby at_86) (by decide) (by decide) ?_
          show Steps p.tables e below (T11_15.setTop (mkF m 90 #[.val (.long q1), .second, .val (.long q2), .second, .val (.long q3), .second, .val (.long q4), .second, .val (.int p5), .val (.int (2 : Int32)), .val (.ref b6_15), .val (.ref b7_15), .unset, .unset, .unset] [(.int (1 : Int32))])) _
          refine XS.istore X11_15.here hx rfl (hb hby at_90) rfl (l' := #[.val (.long q1), .second, .val (.long q2), .second, .val (.long q3), .second, .val (.long q4), .second, .val (.int p5), .val (.int (2 : Int32)), .val (.ref b6_15), .val (.ref b7_15), .val (.int (1 : Int32)), .unset, .unset]) rfl ?_
          exact kt
    obtain ⟨_, _, ⟨T6_20, L6_20, k6_20, n6_20⟩, -, X6_20, ⟨Lc6_20, hQ6_20, l6_20, y6_20, z6_20⟩, st6_20⟩ := Jvm.LawKit.callS X11_15 hx (y := (⟨"com/example/estiba/estiba/placement/Bits", "meet", "([J[J)Z"⟩ : MethodName)) hown (mvT hZ (hw _ (List.mem_of_getElem? (i := 2) rfl))) (mvT hZ (hw _ (List.mem_of_getElem? (i := 3) rfl))) (mvT hZ (hw _ (List.mem_of_getElem? (i := 4) rfl))) (mvT hZ (hw _ (List.mem_of_getElem? (i := 5) rfl))) (by decide) (backOf (W := 0) (rm1 l Z a0 hw [] b6_15 b7_15 (2 : Int32) q1 q3 q2 q4 _ _ _ _ h11_15 n0 Zc Va Vb (Or.inr (Or.inr rfl)) (fun _ => rfl) (fun _ => rfl) (fun _ => rfl) (fun _ => rfl)) hZ (hw _ (List.mem_of_getElem? (i := 5) rfl)) (hw _ (List.mem_of_getElem? (i := 4) rfl)) (by decide) (by decide)) (g := (mkF m 96 #[.val (.long q1), .second, .val (.long q2), .second, .val (.long q3), .second, .val (.long q4), .second, .val (.int p5), .val (.int (2 : Int32)), .val (.ref b6_15), .val (.ref b7_15), .val (.int ex), .unset, .unset] [(.ref b7_15), (.ref b6_15)])) rfl (by rw [hml]; rfl) (argsL := [(.ref b6_15), (.ref b7_15)]) (rest := []) (lenOf pd_0 rfl) rfl (by show 2 * 0 + _ ≤ _; exact Nat.le_of_eq rfl) (hb hby at_96) (fun _ _ => ⟨rfl, e11_15, (by decide : 0 + 2 + 0 ≤ _), (by decide : 0 + 4 + 0 ≤ _)⟩)
    dsimp only [Pt.U, Pt.locs, Pt.cells, Pt.slots] at X6_20 l6_20 y6_20 z6_20 st6_20 hQ6_20
    subst l6_20 y6_20 z6_20
    obtain ⟨rfl, N6q_20, gq_20⟩ := hQ6_20
    have N6_20 := Fr.app N11_15 N6q_20
    have st_20p : ∀ target, Steps p.tables e below (T6_20.setTop (mkF m 101 #[.val (.long q1), .second, .val (.long q2), .second, .val (.long q3), .second, .val (.long q4), .second, .val (.int p5), .val (.int (2 : Int32)), .val (.ref b6_15), .val (.ref b7_15), .val (.int ex), .val (.int (own_meet (2 : Int32) q1 q3 q2 q4)), .unset] [])) target → Steps p.tables e below (T11_15.setTop (mkF m 92 #[.val (.long q1), .second, .val (.long q2), .second, .val (.long q3), .second, .val (.long q4), .second, .val (.int p5), .val (.int (2 : Int32)), .val (.ref b6_15), .val (.ref b7_15), .val (.int ex), .unset, .unset] [])) target := by
      intro target kt
      show Steps p.tables e below (T11_15.setTop (mkF m 92 #[.val (.long q1), .second, .val (.long q2), .second, .val (.long q3), .second, .val (.long q4), .second, .val (.int p5), .val (.int (2 : Int32)), .val (.ref b6_15), .val (.ref b7_15), .val (.int ex), .unset, .unset] [])) _
      refine XS.aload X11_15.here hx rfl (hb hby at_92) rfl rfl ?_
      show Steps p.tables e below (T11_15.setTop (mkF m 94 #[.val (.long q1), .second, .val (.long q2), .second, .val (.long q3), .second, .val (.long q4), .second, .val (.int p5), .val (.int (2 : Int32)), .val (.ref b6_15), .val (.ref b7_15), .val (.int ex), .unset, .unset] [(.ref b6_15)])) _
      refine XS.aload X11_15.here hx rfl (hb hby at_94) rfl rfl ?_
      show Steps p.tables e below (T11_15.setTop (mkF m 96 #[.val (.long q1), .second, .val (.long q2), .second, .val (.long q3), .second, .val (.long q4), .second, .val (.int p5), .val (.int (2 : Int32)), .val (.ref b6_15), .val (.ref b7_15), .val (.int ex), .unset, .unset] [(.ref b7_15), (.ref b6_15)])) _
      refine st6_20 _ ?_
      show Steps p.tables e below (T6_20.setTop (mkF m 99 #[.val (.long q1), .second, .val (.long q2), .second, .val (.long q3), .second, .val (.long q4), .second, .val (.int p5), .val (.int (2 : Int32)), .val (.ref b6_15), .val (.ref b7_15), .val (.int ex), .unset, .unset] [(.int (own_meet (2 : Int32) q1 q3 q2 q4))])) _
      refine XS.istore X6_20.here hx rfl (hb hby at_99) rfl (l' := #[.val (.long q1), .second, .val (.long q2), .second, .val (.long q3), .second, .val (.long q4), .second, .val (.int p5), .val (.int (2 : Int32)), .val (.ref b6_15), .val (.ref b7_15), .val (.int ex), .val (.int (own_meet (2 : Int32) q1 q3 q2 q4)), .unset]) rfl ?_
      exact kt
    obtain ⟨cl, Ar, qc, S, Nn, H, G⟩ := Va
    obtain ⟨cu, Au, qu, Su, Nu, Hu, Gu⟩ := Vb
    have hi0 : ¬ ((0 : Int32) < 0 ∨ cl.slots.size ≤ ((0 : Int32)).toNatClampNeg) := inb_of S ⟨by decide, by decide⟩
    have hj0 : ¬ ((0 : Int32) < 0 ∨ cu.slots.size ≤ ((0 : Int32)).toNatClampNeg) := inb_of Su ⟨by decide, by decide⟩
    have hi1 : ¬ ((1 : Int32) < 0 ∨ cl.slots.size ≤ ((1 : Int32)).toNatClampNeg) := inb_of S ⟨by decide, by decide⟩
    have hj1 : ¬ ((1 : Int32) < 0 ∨ cu.slots.size ≤ ((1 : Int32)).toNatClampNeg) := inb_of Su ⟨by decide, by decide⟩
    have hc104_21 : ¬ ((2 : Int32) < (1 : Int32)) := (by decide)
    have hc113_21 : (lcmpW q1 q1) = (0 : Int32) := (lw_eq _ _).mpr rfl
    have hc123_21 : (lcmpW q3 q3) = (0 : Int32) := (lw_eq _ _).mpr rfl
    have hc129_21 : ¬ ((2 : Int32) < (2 : Int32)) := (by decide)
    have hc138_21 : (lcmpW q2 q2) = (0 : Int32) := (lw_eq _ _).mpr rfl
    have hc148_21 : (lcmpW q4 q4) = (0 : Int32) := (lw_eq _ _).mpr rfl
    have st_21p : ∀ target, Steps p.tables e below (T6_20.setTop (mkF m 158 #[.val (.long q1), .second, .val (.long q2), .second, .val (.long q3), .second, .val (.long q4), .second, .val (.int p5), .val (.int (2 : Int32)), .val (.ref b6_15), .val (.ref b7_15), .val (.int ex), .val (.int (own_meet (2 : Int32) q1 q3 q2 q4)), .val (.int (1 : Int32))] [])) target → Steps p.tables e below (T6_20.setTop (mkF m 101 #[.val (.long q1), .second, .val (.long q2), .second, .val (.long q3), .second, .val (.long q4), .second, .val (.int p5), .val (.int (2 : Int32)), .val (.ref b6_15), .val (.ref b7_15), .val (.int ex), .val (.int (own_meet (2 : Int32) q1 q3 q2 q4)), .unset] [])) target := by
      intro target kt
      show Steps p.tables e below (T6_20.setTop (mkF m 101 #[.val (.long q1), .second, .val (.long q2), .second, .val (.long q3), .second, .val (.long q4), .second, .val (.int p5), .val (.int (2 : Int32)), .val (.ref b6_15), .val (.ref b7_15), .val (.int ex), .val (.int (own_meet (2 : Int32) q1 q3 q2 q4)), .unset] [])) _
      refine XS.iload X6_20.here hx rfl (hb hby at_101) rfl ?_
      show Steps p.tables e below (T6_20.setTop (mkF m 103 #[.val (.long q1), .second, .val (.long q2), .second, .val (.long q3), .second, .val (.long q4), .second, .val (.int p5), .val (.int (2 : Int32)), .val (.ref b6_15), .val (.ref b7_15), .val (.int ex), .val (.int (own_meet (2 : Int32) q1 q3 q2 q4)), .unset] [(.int (2 : Int32))])) _
      refine XS.iconst X6_20.here hx rfl (hb hby at_103) ?_
      show Steps p.tables e below (T6_20.setTop (mkF m 104 #[.val (.long q1), .second, .val (.long q2), .second, .val (.long q3), .second, .val (.long q4), .second, .val (.int p5), .val (.int (2 : Int32)), .val (.ref b6_15), .val (.ref b7_15), .val (.int ex), .val (.int (own_meet (2 : Int32) q1 q3 q2 q4)), .unset] [(.int (1 : Int32)), (.int (2 : Int32))])) _
      refine XS.icmpNo X6_20.here hx rfl (hb hby at_104) rfl (flt hc104_21).1 ?_
      show Steps p.tables e below (T6_20.setTop (mkF m 107 #[.val (.long q1), .second, .val (.long q2), .second, .val (.long q3), .second, .val (.long q4), .second, .val (.int p5), .val (.int (2 : Int32)), .val (.ref b6_15), .val (.ref b7_15), .val (.int ex), .val (.int (own_meet (2 : Int32) q1 q3 q2 q4)), .unset] [])) _
      refine XS.aload X6_20.here hx rfl (hb hby at_107) rfl rfl ?_
      show Steps p.tables e below (T6_20.setTop (mkF m 109 #[.val (.long q1), .second, .val (.long q2), .second, .val (.long q3), .second, .val (.long q4), .second, .val (.int p5), .val (.int (2 : Int32)), .val (.ref b6_15), .val (.ref b7_15), .val (.int ex), .val (.int (own_meet (2 : Int32) q1 q3 q2 q4)), .unset] [(.ref b6_15)])) _
      refine XS.iconst X6_20.here hx rfl (hb hby at_109) ?_
      show Steps p.tables e below (T6_20.setTop (mkF m 110 #[.val (.long q1), .second, .val (.long q2), .second, .val (.long q3), .second, .val (.long q4), .second, .val (.int p5), .val (.int (2 : Int32)), .val (.ref b6_15), .val (.ref b7_15), .val (.int ex), .val (.int (own_meet (2 : Int32) q1 q3 q2 q4)), .unset] [(.int (0 : Int32)), (.ref b6_15)])) _
      refine X6_20.laload hx (j := (0 : Int32)) (v := (.long q1)) (by rw [gq_20]; exact Ar.1) (State.isArrayOf_alike hZ.alike Ar.2.1) Ar.2.2 hi0 (Has.at H hi0 rfl) (g := (mkF m 110 #[.val (.long q1), .second, .val (.long q2), .second, .val (.long q3), .second, .val (.long q4), .second, .val (.int p5), .val (.int (2 : Int32)), .val (.ref b6_15), .val (.ref b7_15), .val (.int ex), .val (.int (own_meet (2 : Int32) q1 q3 q2 q4)), .unset] [(.int (0 : Int32)), (.ref b6_15)])) rfl rfl (hb hby at_110) _ ?_
      show Steps p.tables e below (T6_20.setTop (mkF m 111 #[.val (.long q1), .second, .val (.long q2), .second, .val (.long q3), .second, .val (.long q4), .second, .val (.int p5), .val (.int (2 : Int32)), .val (.ref b6_15), .val (.ref b7_15), .val (.int ex), .val (.int (own_meet (2 : Int32) q1 q3 q2 q4)), .unset] [(.long q1)])) _
      refine XS.lloadN X6_20.here hx rfl (hb hby at_111) rfl ?_
      show Steps p.tables e below (T6_20.setTop (mkF m 112 #[.val (.long q1), .second, .val (.long q2), .second, .val (.long q3), .second, .val (.long q4), .second, .val (.int p5), .val (.int (2 : Int32)), .val (.ref b6_15), .val (.ref b7_15), .val (.int ex), .val (.int (own_meet (2 : Int32) q1 q3 q2 q4)), .unset] [(.long q1), (.long q1)])) _
      refine XS.lcmp X6_20.here hx rfl (hb hby at_112) rfl ?_
      show Steps p.tables e below (T6_20.setTop (mkF m 113 #[.val (.long q1), .second, .val (.long q2), .second, .val (.long q3), .second, .val (.long q4), .second, .val (.int p5), .val (.int (2 : Int32)), .val (.ref b6_15), .val (.ref b7_15), .val (.int ex), .val (.int (own_meet (2 : Int32) q1 q3 q2 q4)), .unset] [(.int (lcmpW q1 q1))])) _
      refine XS.ifNo X6_20.here hx rfl (hb hby at_113) rfl ((if0 _ _).trans (teq hc113_21).2) ?_
      show Steps p.tables e below (T6_20.setTop (mkF m 116 #[.val (.long q1), .second, .val (.long q2), .second, .val (.long q3), .second, .val (.long q4), .second, .val (.int p5), .val (.int (2 : Int32)), .val (.ref b6_15), .val (.ref b7_15), .val (.int ex), .val (.int (own_meet (2 : Int32) q1 q3 q2 q4)), .unset] [])) _
      refine XS.aload X6_20.here hx rfl (hb hby at_116) rfl rfl ?_
      show Steps p.tables e below (T6_20.setTop (mkF m 118 #[.val (.long q1), .second, .val (.long q2), .second, .val (.long q3), .second, .val (.long q4), .second, .val (.int p5), .val (.int (2 : Int32)), .val (.ref b6_15), .val (.ref b7_15), .val (.int ex), .val (.int (own_meet (2 : Int32) q1 q3 q2 q4)), .unset] [(.ref b7_15)])) _
      refine XS.iconst X6_20.here hx rfl (hb hby at_118) ?_
      show Steps p.tables e below (T6_20.setTop (mkF m 119 #[.val (.long q1), .second, .val (.long q2), .second, .val (.long q3), .second, .val (.long q4), .second, .val (.int p5), .val (.int (2 : Int32)), .val (.ref b6_15), .val (.ref b7_15), .val (.int ex), .val (.int (own_meet (2 : Int32) q1 q3 q2 q4)), .unset] [(.int (0 : Int32)), (.ref b7_15)])) _
      refine X6_20.laload hx (j := (0 : Int32)) (v := (.long q3)) (by rw [gq_20]; exact Au.1) (State.isArrayOf_alike hZ.alike Au.2.1) Au.2.2 hj0 (Has.at Hu hj0 rfl) (g := (mkF m 119 #[.val (.long q1), .second, .val (.long q2), .second, .val (.long q3), .second, .val (.long q4), .second, .val (.int p5), .val (.int (2 : Int32)), .val (.ref b6_15), .val (.ref b7_15), .val (.int ex), .val (.int (own_meet (2 : Int32) q1 q3 q2 q4)), .unset] [(.int (0 : Int32)), (.ref b7_15)])) rfl rfl (hb hby at_119) _ ?_
      show Steps p.tables e below (T6_20.setTop (mkF m 120 #[.val (.long q1), .second, .val (.long q2), .second, .val (.long q3), .second, .val (.long q4), .second, .val (.int p5), .val (.int (2 : Int32)), .val (.ref b6_15), .val (.ref b7_15), .val (.int ex), .val (.int (own_meet (2 : Int32) q1 q3 q2 q4)), .unset] [(.long q3)])) _
      refine XS.lload X6_20.here hx rfl (hb hby at_120) rfl ?_
      show Steps p.tables e below (T6_20.setTop (mkF m 122 #[.val (.long q1), .second, .val (.long q2), .second, .val (.long q3), .second, .val (.long q4), .second, .val (.int p5), .val (.int (2 : Int32)), .val (.ref b6_15), .val (.ref b7_15), .val (.int ex), .val (.int (own_meet (2 : Int32) q1 q3 q2 q4)), .unset] [(.long q3), (.long q3)])) _
      refine XS.lcmp X6_20.here hx rfl (hb hby at_122) rfl ?_
      show Steps p.tables e below (T6_20.setTop (mkF m 123 #[.val (.long q1), .second, .val (.long q2), .second, .val (.long q3), .second, .val (.long q4), .second, .val (.int p5), .val (.int (2 : Int32)), .val (.ref b6_15), .val (.ref b7_15), .val (.int ex), .val (.int (own_meet (2 : Int32) q1 q3 q2 q4)), .unset] [(.int (lcmpW q3 q3))])) _
      refine XS.ifNo X6_20.here hx rfl (hb hby at_123) rfl ((if0 _ _).trans (teq hc123_21).2) ?_
      show Steps p.tables e below (T6_20.setTop (mkF m 126 #[.val (.long q1), .second, .val (.long q2), .second, .val (.long q3), .second, .val (.long q4), .second, .val (.int p5), .val (.int (2 : Int32)), .val (.ref b6_15), .val (.ref b7_15), .val (.int ex), .val (.int (own_meet (2 : Int32) q1 q3 q2 q4)), .unset] [])) _
      refine XS.iload X6_20.here hx rfl (hb hby at_126) rfl ?_
      show Steps p.tables e below (T6_20.setTop (mkF m 128 #[.val (.long q1), .second, .val (.long q2), .second, .val (.long q3), .second, .val (.long q4), .second, .val (.int p5), .val (.int (2 : Int32)), .val (.ref b6_15), .val (.ref b7_15), .val (.int ex), .val (.int (own_meet (2 : Int32) q1 q3 q2 q4)), .unset] [(.int (2 : Int32))])) _
      refine XS.iconst X6_20.here hx rfl (hb hby at_128) ?_
      show Steps p.tables e below (T6_20.setTop (mkF m 129 #[.val (.long q1), .second, .val (.long q2), .second, .val (.long q3), .second, .val (.long q4), .second, .val (.int p5), .val (.int (2 : Int32)), .val (.ref b6_15), .val (.ref b7_15), .val (.int ex), .val (.int (own_meet (2 : Int32) q1 q3 q2 q4)), .unset] [(.int (2 : Int32)), (.int (2 : Int32))])) _
      refine XS.icmpNo X6_20.here hx rfl (hb hby at_129) rfl (flt hc129_21).1 ?_
      show Steps p.tables e below (T6_20.setTop (mkF m 132 #[.val (.long q1), .second, .val (.long q2), .second, .val (.long q3), .second, .val (.long q4), .second, .val (.int p5), .val (.int (2 : Int32)), .val (.ref b6_15), .val (.ref b7_15), .val (.int ex), .val (.int (own_meet (2 : Int32) q1 q3 q2 q4)), .unset] [])) _
      refine XS.aload X6_20.here hx rfl (hb hby at_132) rfl rfl ?_
      show Steps p.tables e below (T6_20.setTop (mkF m 134 #[.val (.long q1), .second, .val (.long q2), .second, .val (.long q3), .second, .val (.long q4), .second, .val (.int p5), .val (.int (2 : Int32)), .val (.ref b6_15), .val (.ref b7_15), .val (.int ex), .val (.int (own_meet (2 : Int32) q1 q3 q2 q4)), .unset] [(.ref b6_15)])) _
      refine XS.iconst X6_20.here hx rfl (hb hby at_134) ?_
      show Steps p.tables e below (T6_20.setTop (mkF m 135 #[.val (.long q1), .second, .val (.long q2), .second, .val (.long q3), .second, .val (.long q4), .second, .val (.int p5), .val (.int (2 : Int32)), .val (.ref b6_15), .val (.ref b7_15), .val (.int ex), .val (.int (own_meet (2 : Int32) q1 q3 q2 q4)), .unset] [(.int (1 : Int32)), (.ref b6_15)])) _
      refine X6_20.laload hx (j := (1 : Int32)) (v := (.long q2)) (by rw [gq_20]; exact Ar.1) (State.isArrayOf_alike hZ.alike Ar.2.1) Ar.2.2 hi1 (Has.at H hi1 rfl) (g := (mkF m 135 #[.val (.long q1), .second, .val (.long q2), .second, .val (.long q3), .second, .val (.long q4), .second, .val (.int p5), .val (.int (2 : Int32)), .val (.ref b6_15), .val (.ref b7_15), .val (.int ex), .val (.int (own_meet (2 : Int32) q1 q3 q2 q4)), .unset] [(.int (1 : Int32)), (.ref b6_15)])) rfl rfl (hb hby at_135) _ ?_
      show Steps p.tables e below (T6_20.setTop (mkF m 136 #[.val (.long q1), .second, .val (.long q2), .second, .val (.long q3), .second, .val (.long q4), .second, .val (.int p5), .val (.int (2 : Int32)), .val (.ref b6_15), .val (.ref b7_15), .val (.int ex), .val (.int (own_meet (2 : Int32) q1 q3 q2 q4)), .unset] [(.long q2)])) _
      refine XS.lloadN X6_20.here hx rfl (hb hby at_136) rfl ?_
      show Steps p.tables e below (T6_20.setTop (mkF m 137 #[.val (.long q1), .second, .val (.long q2), .second, .val (.long q3), .second, .val (.long q4), .second, .val (.int p5), .val (.int (2 : Int32)), .val (.ref b6_15), .val (.ref b7_15), .val (.int ex), .val (.int (own_meet (2 : Int32) q1 q3 q2 q4)), .unset] [(.long q2), (.long q2)])) _
      refine XS.lcmp X6_20.here hx rfl (hb hby at_137) rfl ?_
      show Steps p.tables e below (T6_20.setTop (mkF m 138 #[.val (.long q1), .second, .val (.long q2), .second, .val (.long q3), .second, .val (.long q4), .second, .val (.int p5), .val (.int (2 : Int32)), .val (.ref b6_15), .val (.ref b7_15), .val (.int ex), .val (.int (own_meet (2 : Int32) q1 q3 q2 q4)), .unset] [(.int (lcmpW q2 q2))])) _
      refine XS.ifNo X6_20.here hx rfl (hb hby at_138) rfl ((if0 _ _).trans (teq hc138_21).2) ?_
      show Steps p.tables e below (T6_20.setTop (mkF m 141 #[.val (.long q1), .second, .val (.long q2), .second, .val (.long q3), .second, .val (.long q4), .second, .val (.int p5), .val (.int (2 : Int32)), .val (.ref b6_15), .val (.ref b7_15), .val (.int ex), .val (.int (own_meet (2 : Int32) q1 q3 q2 q4)), .unset] [])) _
      refine XS.aload X6_20.here hx rfl (hb hby at_141) rfl rfl ?_
      show Steps p.tables e below (T6_20.setTop (mkF m 143 #[.val (.long q1), .second, .val (.long q2), .second, .val (.long q3), .second, .val (.long q4), .second, .val (.int p5), .val (.int (2 : Int32)), .val (.ref b6_15), .val (.ref b7_15), .val (.int ex), .val (.int (own_meet (2 : Int32) q1 q3 q2 q4)), .unset] [(.ref b7_15)])) _
      refine XS.iconst X6_20.here hx rfl (hb hby at_143) ?_
      show Steps p.tables e below (T6_20.setTop (mkF m 144 #[.val (.long q1), .second, .val (.long q2), .second, .val (.long q3), .second, .val (.long q4), .second, .val (.int p5), .val (.int (2 : Int32)), .val (.ref b6_15), .val (.ref b7_15), .val (.int ex), .val (.int (own_meet (2 : Int32) q1 q3 q2 q4)), .unset] [(.int (1 : Int32)), (.ref b7_15)])) _
      refine X6_20.laload hx (j := (1 : Int32)) (v := (.long q4)) (by rw [gq_20]; exact Au.1) (State.isArrayOf_alike hZ.alike Au.2.1) Au.2.2 hj1 (Has.at Hu hj1 rfl) (g := (mkF m 144 #[.val (.long q1), .second, .val (.long q2), .second, .val (.long q3), .second, .val (.long q4), .second, .val (.int p5), .val (.int (2 : Int32)), .val (.ref b6_15), .val (.ref b7_15), .val (.int ex), .val (.int (own_meet (2 : Int32) q1 q3 q2 q4)), .unset] [(.int (1 : Int32)), (.ref b7_15)])) rfl rfl (hb hby at_144) _ ?_
      show Steps p.tables e below (T6_20.setTop (mkF m 145 #[.val (.long q1), .second, .val (.long q2), .second, .val (.long q3), .second, .val (.long q4), .second, .val (.int p5), .val (.int (2 : Int32)), .val (.ref b6_15), .val (.ref b7_15), .val (.int ex), .val (.int (own_meet (2 : Int32) q1 q3 q2 q4)), .unset] [(.long q4)])) _
      refine XS.lload X6_20.here hx rfl (hb hby at_145) rfl ?_
      show Steps p.tables e below (T6_20.setTop (mkF m 147 #[.val (.long q1), .second, .val (.long q2), .second, .val (.long q3), .second, .val (.long q4), .second, .val (.int p5), .val (.int (2 : Int32)), .val (.ref b6_15), .val (.ref b7_15), .val (.int ex), .val (.int (own_meet (2 : Int32) q1 q3 q2 q4)), .unset] [(.long q4), (.long q4)])) _
      refine XS.lcmp X6_20.here hx rfl (hb hby at_147) rfl ?_
      show Steps p.tables e below (T6_20.setTop (mkF m 148 #[.val (.long q1), .second, .val (.long q2), .second, .val (.long q3), .second, .val (.long q4), .second, .val (.int p5), .val (.int (2 : Int32)), .val (.ref b6_15), .val (.ref b7_15), .val (.int ex), .val (.int (own_meet (2 : Int32) q1 q3 q2 q4)), .unset] [(.int (lcmpW q4 q4))])) _
      refine XS.ifNo X6_20.here hx rfl (hb hby at_148) rfl ((if0 _ _).trans (teq hc148_21).2) ?_
      show Steps p.tables e below (T6_20.setTop (mkF m 151 #[.val (.long q1), .second, .val (.long q2), .second, .val (.long q3), .second, .val (.long q4), .second, .val (.int p5), .val (.int (2 : Int32)), .val (.ref b6_15), .val (.ref b7_15), .val (.int ex), .val (.int (own_meet (2 : Int32) q1 q3 q2 q4)), .unset] [])) _
      refine XS.iconst X6_20.here hx rfl (hb hby at_151) ?_
      show Steps p.tables e below (T6_20.setTop (mkF m 152 #[.val (.long q1), .second, .val (.long q2), .second, .val (.long q3), .second, .val (.long q4), .second, .val (.int p5), .val (.int (2 : Int32)), .val (.ref b6_15), .val (.ref b7_15), .val (.int ex), .val (.int (own_meet (2 : Int32) q1 q3 q2 q4)), .unset] [(.int (1 : Int32))])) _
      refine XS.goto X6_20.here hx rfl (pc0 := 152) (pc' := 156) rfl (hb hby at_152) (by decide) (by decide) ?_
      show Steps p.tables e below (T6_20.setTop (mkF m 156 #[.val (.long q1), .second, .val (.long q2), .second, .val (.long q3), .second, .val (.long q4), .second, .val (.int p5), .val (.int (2 : Int32)), .val (.ref b6_15), .val (.ref b7_15), .val (.int ex), .val (.int (own_meet (2 : Int32) q1 q3 q2 q4)), .unset] [(.int (1 : Int32))])) _
      refine XS.istore X6_20.here hx rfl (hb hby at_156) rfl (l' := #[.val (.long q1), .second, .val (.long q2), .second, .val (.long q3), .second, .val (.long q4), .second, .val (.int p5), .val (.int (2 : Int32)), .val (.ref b6_15), .val (.ref b7_15), .val (.int ex), .val (.int (own_meet (2 : Int32) q1 q3 q2 q4)), .val (.int (1 : Int32))]) rfl ?_
      exact kt
    have hc162_22 : (own_meet (2 : Int32) q1 q3 q2 q4) = ex := hex.symm
    have hc167_22 : ¬ ((1 : Int32) = (0 : Int32)) := (by decide)
    have st_22p : ∀ target, Steps p.tables e below (T6_20.setTop (mkF m 175 #[.val (.long q1), .second, .val (.long q2), .second, .val (.long q3), .second, .val (.long q4), .second, .val (.int p5), .val (.int (2 : Int32)), .val (.ref b6_15), .val (.ref b7_15), .val (.int ex), .val (.int (own_meet (2 : Int32) q1 q3 q2 q4)), .val (.int (1 : Int32))] [(.int (1 : Int32))])) target → Steps p.tables e below (T6_20.setTop (mkF m 158 #[.val (.long q1), .second, .val (.long q2), .second, .val (.long q3), .second, .val (.long q4), .second, .val (.int p5), .val (.int (2 : Int32)), .val (.ref b6_15), .val (.ref b7_15), .val (.int ex), .val (.int (own_meet (2 : Int32) q1 q3 q2 q4)), .val (.int (1 : Int32))] [])) target := by
      intro target kt
      show Steps p.tables e below (T6_20.setTop (mkF m 158 #[.val (.long q1), .second, .val (.long q2), .second, .val (.long q3), .second, .val (.long q4), .second, .val (.int p5), .val (.int (2 : Int32)), .val (.ref b6_15), .val (.ref b7_15), .val (.int ex), .val (.int (own_meet (2 : Int32) q1 q3 q2 q4)), .val (.int (1 : Int32))] [])) _
      refine XS.iload X6_20.here hx rfl (hb hby at_158) rfl ?_
      show Steps p.tables e below (T6_20.setTop (mkF m 160 #[.val (.long q1), .second, .val (.long q2), .second, .val (.long q3), .second, .val (.long q4), .second, .val (.int p5), .val (.int (2 : Int32)), .val (.ref b6_15), .val (.ref b7_15), .val (.int ex), .val (.int (own_meet (2 : Int32) q1 q3 q2 q4)), .val (.int (1 : Int32))] [(.int (own_meet (2 : Int32) q1 q3 q2 q4))])) _
      refine XS.iload X6_20.here hx rfl (hb hby at_160) rfl ?_
      show Steps p.tables e below (T6_20.setTop (mkF m 162 #[.val (.long q1), .second, .val (.long q2), .second, .val (.long q3), .second, .val (.long q4), .second, .val (.int p5), .val (.int (2 : Int32)), .val (.ref b6_15), .val (.ref b7_15), .val (.int ex), .val (.int (own_meet (2 : Int32) q1 q3 q2 q4)), .val (.int (1 : Int32))] [(.int ex), (.int (own_meet (2 : Int32) q1 q3 q2 q4))])) _
      refine XS.icmpNo X6_20.here hx rfl (hb hby at_162) rfl (teq hc162_22).2 ?_
      show Steps p.tables e below (T6_20.setTop (mkF m 165 #[.val (.long q1), .second, .val (.long q2), .second, .val (.long q3), .second, .val (.long q4), .second, .val (.int p5), .val (.int (2 : Int32)), .val (.ref b6_15), .val (.ref b7_15), .val (.int ex), .val (.int (own_meet (2 : Int32) q1 q3 q2 q4)), .val (.int (1 : Int32))] [])) _
      refine XS.iload X6_20.here hx rfl (hb hby at_165) rfl ?_
      show Steps p.tables e below (T6_20.setTop (mkF m 167 #[.val (.long q1), .second, .val (.long q2), .second, .val (.long q3), .second, .val (.long q4), .second, .val (.int p5), .val (.int (2 : Int32)), .val (.ref b6_15), .val (.ref b7_15), .val (.int ex), .val (.int (own_meet (2 : Int32) q1 q3 q2 q4)), .val (.int (1 : Int32))] [(.int (1 : Int32))])) _
      refine XS.ifNo X6_20.here hx rfl (hb hby at_167) rfl ((if0 _ _).trans (feq hc167_22).1) ?_
      show Steps p.tables e below (T6_20.setTop (mkF m 170 #[.val (.long q1), .second, .val (.long q2), .second, .val (.long q3), .second, .val (.long q4), .second, .val (.int p5), .val (.int (2 : Int32)), .val (.ref b6_15), .val (.ref b7_15), .val (.int ex), .val (.int (own_meet (2 : Int32) q1 q3 q2 q4)), .val (.int (1 : Int32))] [])) _
      refine XS.iconst X6_20.here hx rfl (hb hby at_170) ?_
      show Steps p.tables e below (T6_20.setTop (mkF m 171 #[.val (.long q1), .second, .val (.long q2), .second, .val (.long q3), .second, .val (.long q4), .second, .val (.int p5), .val (.int (2 : Int32)), .val (.ref b6_15), .val (.ref b7_15), .val (.int ex), .val (.int (own_meet (2 : Int32) q1 q3 q2 q4)), .val (.int (1 : Int32))] [(.int (1 : Int32))])) _
      refine XS.goto X6_20.here hx rfl (pc0 := 171) (pc' := 175) rfl (hb hby at_171) (by decide) (by decide) ?_
      exact kt
    obtain ⟨fs, hr, hrun, hended, hW, hsame⟩ := X6_20.leave (v := some (.int (1 : Int32))) (fun h => by rw [Bd.returns] at h; cases h)
    refine ⟨_, _, pre0 _ ?_, hrun, hended, _, _, rfl, ?_, ⟨_, rfl⟩, hW, hsame.mono (by decide) (by decide)⟩
    · show Steps p.tables e below (s₁.setTop (mkF m 0 #[.val (.long q1), .second, .val (.long q2), .second, .val (.long q3), .second, .val (.long q4), .second, .val (.int p5), .unset, .unset, .unset, .unset, .unset, .unset] [])) _
      refine st_1p _ ?_
      refine st_15p _ ?_
      refine st_19p _ ?_
      refine st_20p _ ?_
      refine st_21p _ ?_
      refine st_22p _ ?_
      exact retN X6_20 hx (t := .boolean) Bd.returns (by simp) (hb hby at_175) hr
    · show Q0 Z q1 q2 q3 q4 p5 h0 n0 _ T6_20.heap _
      rw [gq_20]
      exact ⟨rfl, N6_20⟩
set_option maxRecDepth 65536 in
set_option maxHeartbeats 40000000 in
theorem comes_1 {Post : Tables → Env → Array Value → State → Outcome → State → Prop} (hpost : ∀ tb e args s v u, (limb_1_1.after args s (.returned v) u = true ∧ limb_1_2.after args s (.returned v) u = true ∧ True) → FrameEnd s (.returned v) u (Jvm.fieldLocs frame_1_writes args s ++ Jvm.arrayLocs frame_1_arrays args s ++ Jvm.staticLocs frame_1_statics s) 16 128 → Post tb e args s (.returned v) u) :
    ArmFor flags0 classFile x code maxLocals ret World_1 tables_1 room_1 Calls_1 rest_1 Pre_1 Post := by
  intro l hfl _ _ p e ha hc hk s m args below hf hA hF happ hP
  obtain ⟨hcalls, hrest, hpre⟩ := hP
  obtain ⟨-, -, -, hnamed, -, -, -, hat⟩ := (Spec.applies_iff hf).mp happ
  obtain ⟨hg, hn⟩ := and_e (Cond.before_iff.mp (show (Jvm.Cond.and given_1 narrow_1).before args s = true from hpre))
  obtain ⟨g9, g10⟩ := and_e hg
  obtain ⟨g11, g12⟩ := and_e g10
  obtain ⟨g13, g14⟩ := and_e g12
  obtain ⟨g15, g16⟩ := and_e g14
  obtain ⟨g17, g18⟩ := and_e g16
  obtain ⟨w0, w1, w2, w3, w4, rfl⟩ : ∃ w0 w1 w2 w3 w4 : Value, args = #[w0, w1, w2, w3, w4] := by
    have hs : args.size = 5 := by simpa [Cond.value, given_1] using g9
    obtain ⟨L⟩ := args
    match L, hs with
    | [w0, w1, w2, w3, w4], _ => exact ⟨w0, w1, w2, w3, w4, rfl⟩
  have hw := fun d (hd : d ∈ tables_1) => atoms_spec (ws := Jvm.Cond.code x code maxLocals ret :: tables_1) hat d (List.mem_cons_of_mem _ hd)
  have hfit : Fit s := fun {y c} hc i hi => by
    obtain ⟨ha, rfl⟩ := Array.getElem?_eq_some_iff.mp hc
    have q := List.all_eq_true.mp ((Array.all_eq_true_iff_forall_mem.mp hF) _ (Array.getElem_mem ha)) i (List.mem_range.mpr hi)
    simpa [Array.getElem?_eq_getElem hi] using q
  obtain ⟨i0, ei0⟩ := isL_v g11
  obtain rfl : w0 = (.long i0) := Option.some.inj ei0
  obtain ⟨i1, ei1⟩ := isL_v g13
  obtain rfl : w1 = (.long i1) := Option.some.inj ei1
  obtain ⟨i2, ei2⟩ := isL_v g15
  obtain rfl : w2 = (.long i2) := Option.some.inj ei2
  obtain ⟨i3, ei3⟩ := isL_v g17
  obtain rfl : w3 = (.long i3) := Option.some.inj ei3
  obtain ⟨i4, ei4⟩ := is_v g18
  obtain rfl : w4 = (.int i4) := Option.some.inj ei4
  obtain ⟨n, o, h1, h2, h3, _, L, rfl, ⟨rfl, N⟩, hq⟩ := rm0 l s _ hw tables_1 i0 i1 i2 i3 i4 s.heap s.heap.size (Nat.le_refl _) p e ha hc hk s m _ below hf ((Spec.applies_iff_loose hf).mp happ).1 ⟨rfl, State.Warmed39.refl s, rfl⟩ trivial
  refine ⟨n, _, h1, h2, h3, hpost _ _ _ _ _ _ ⟨Cond.after_iff.mpr rfl, Cond.after_iff.mpr (eq_i res_at (Term.int_eval (1)) rfl), trivial⟩ ⟨hq.1, hq.2.1, (hq.2.2.sift fun y hy => Or.inr (N y hy)).mono (by decide) (by decide)⟩⟩
theorem main_1_1 : Claimed_1_1 := comes_1 fun _ _ _ _ _ _ h hF => ⟨h.1, hF⟩
theorem main_1_2 : Claimed_1_2 := comes_1 fun _ _ _ _ _ _ h hF => ⟨h.2.1, hF⟩
end Jvm.Pilot.@@N@@
namespace Jvm.Pilot.@@N@@
open Jvm Jvm.ClassFile Sem Op Lib Jvm.Free Jvm.Stand Jvm.Pilot.@@N@@.Jvm.D
/-! MADE BY PROGRAM (witnessworld.py) out of the Statement's table words and the real class files: 11 classes; the members and pool entries that the words name. The judged class is class 1, her method 1. -/
namespace start1
open Jvm.ClassFile
def u (s : String) : CpInfo := .utf8 (stringToUtf16 s)
/-- a pool by its gaps: so many unusable entries, then the entry; so many at the end -/
def gap : Nat → List CpInfo → List CpInfo
  | 0, r => r
  | n + 1, r => .unusable :: gap n r
def poolList (es : List (Nat × CpInfo)) (last : Nat) : List CpInfo := es.foldr (fun e r => gap e.1 (e.2 :: r)) (gap last [])
def pool (es : List (Nat × CpInfo)) (last : Nat) : Array CpInfo := ⟨poolList es last⟩
def fileOf (pool : Array CpInfo) (this : Nat) (attrs : Array Attribute := #[]) (ms : Array MethodInfo := #[]) (fl : Nat := 33) (sup : Nat := 0) (ifs : Array Nat := #[]) (fds : Array FieldInfo := #[]) : ClassFile where
  minorVersion := 0
  majorVersion := 65
  constantPool := pool
  accessFlags := fl
  thisClass := this
  superClass := sup
  interfaces := ifs
  fields := fds
  methods := ms
  attributes := attrs
def plain (name : String) (sup : Option ClassId) : Class where
  name := name
  kind := .ordinary
  loader := none
  accessFlags := 33
  super := sup
  interfaces := #[]
  cf := none
  fields := #[]
  methods := #[]
  instanceTypes := #[]
  staticTypes := #[]
  resolved := #[]
  callSites := []
  init := .initialized
  statics := none
  mirror := none

def pool0 : Array CpInfo := pool [(5, u "<init>"), (0, u "()V"), (1, .class_ 10), (1, u "java/lang/Object")] 113

def k0m0 : Method := { name := "<init>", desc := "()V", sig := { parameters := [], returnType := none }, accessFlags := 1, code := none }
/-- java/lang/Object -/
def k0 : Class := { plain "java/lang/Object" none with
  accessFlags := 33
  interfaces := #[]
  cf := some (fileOf pool0 8 #[] #[{ accessFlags := 1, nameIndex := 5, descriptorIndex := 6, attributes := #[] }] 33 0 #[] #[])
  fields := #[]
  methods := #[k0m0]
  instanceTypes := #[]
  staticTypes := #[]
  resolved := Array.replicate 124 none
  statics := none }

def pool1 : Array CpInfo := pool [(2, .class_ 4), (1, u "java/lang/Object"), (0, u "<init>"), (0, u "()V"), (0, .integer 2147483647), (0, .methodref 9 10), (0, .class_ 11), (0, .nameAndType 12 13), (0, u "com/example/estiba/estiba/placement/Bits"), (0, u "meet"), (0, u "([J[J)Z"), (0, .class_ 15), (0, u "com/example/estiba/estiba/placement/BitsMeetPinLaw"), (2, u "law"), (0, u "(JJJJI)Z")] 5

def k1m0 : Method := { name := "<init>", desc := "()V", sig := { parameters := [], returnType := none }, accessFlags := 1, code := none }
def k1c1 : Code := { maxStack := 4, maxLocals := 15, code := code, exceptionTable := #[], attributes := #[] }
def k1m1 : Method := { name := "law", desc := "(JJJJI)Z", sig := { parameters := [.long, .long, .long, .long, .int], returnType := some .boolean }, accessFlags := 9, code := some k1c1 }
/-- com/example/estiba/estiba/placement/BitsMeetPinLaw -/
def k1 : Class := { plain "com/example/estiba/estiba/placement/BitsMeetPinLaw" (some 0) with
  accessFlags := 49
  interfaces := #[]
  cf := some (fileOf pool1 14 #[] #[{ accessFlags := 1, nameIndex := 5, descriptorIndex := 6, attributes := #[] }, { accessFlags := 9, nameIndex := 18, descriptorIndex := 19, attributes := #[] }] 49 2 #[] #[])
  fields := #[]
  methods := #[k1m0, k1m1]
  instanceTypes := #[]
  staticTypes := #[]
  resolved := Array.replicate 25 none
  statics := none }

def pool2 : Array CpInfo := pool [(2, .class_ 4), (1, u "java/lang/Object"), (0, u "<init>"), (0, u "()V"), (1, .class_ 10), (1, u "com/example/estiba/estiba/placement/Bits"), (25, u "([J[J)Z"), (0, u "meet")] 2

def k2m0 : Method := { name := "<init>", desc := "()V", sig := { parameters := [], returnType := none }, accessFlags := 2, code := none }
def k2c1 : Code := { maxStack := 4, maxLocals := 4, code := prog_12_method_10_code, exceptionTable := #[], attributes := #[] }
def k2m1 : Method := { name := "meet", desc := "([J[J)Z", sig := { parameters := [(.array .long), (.array .long)], returnType := some .boolean }, accessFlags := 8, code := some k2c1 }
/-- com/example/estiba/estiba/placement/Bits -/
def k2 : Class := { plain "com/example/estiba/estiba/placement/Bits" (some 0) with
  accessFlags := 48
  interfaces := #[]
  cf := some (fileOf pool2 8 #[] #[{ accessFlags := 2, nameIndex := 5, descriptorIndex := 6, attributes := #[] }, { accessFlags := 8, nameIndex := 37, descriptorIndex := 36, attributes := #[] }] 48 2 #[] #[])
  fields := #[]
  methods := #[k2m0, k2m1]
  instanceTypes := #[]
  staticTypes := #[]
  resolved := Array.replicate 40 none
  statics := none }

def pool3 : Array CpInfo := pool [(1, u "java/lang/Cloneable"), (0, .class_ 1), (0, u "java/lang/Object"), (0, .class_ 3)] 3

/-- java/lang/Cloneable -/
def k3 : Class := { plain "java/lang/Cloneable" (some 0) with
  accessFlags := 1537
  interfaces := #[]
  cf := some (fileOf pool3 2 #[] #[] 1537 4 #[] #[])
  fields := #[]
  methods := #[]
  instanceTypes := #[]
  staticTypes := #[]
  resolved := Array.replicate 8 none
  statics := none }

def pool4 : Array CpInfo := pool [(1, u "java/io/Serializable"), (0, .class_ 1), (0, u "java/lang/Object"), (0, .class_ 3)] 3

/-- java/io/Serializable -/
def k4 : Class := { plain "java/io/Serializable" (some 0) with
  accessFlags := 1537
  interfaces := #[]
  cf := some (fileOf pool4 2 #[] #[] 1537 4 #[] #[])
  fields := #[]
  methods := #[]
  instanceTypes := #[]
  staticTypes := #[]
  resolved := Array.replicate 8 none
  statics := none }

/-- the primitive byte -/
def k5 : Class := { plain "byte" none with kind := .primitive 'B', accessFlags := 0x411 }
/-- [B -/
def k6 : Class := { plain "[B" (some 0) with kind := .array 5 .byte, interfaces := #[3, 4], accessFlags := 1041 }

/-- the primitive int -/
def k7 : Class := { plain "int" none with kind := .primitive 'I', accessFlags := 0x411 }
/-- [I -/
def k8 : Class := { plain "[I" (some 0) with kind := .array 7 .int, interfaces := #[3, 4], accessFlags := 1041 }

/-- the primitive long -/
def k9 : Class := { plain "long" none with kind := .primitive 'J', accessFlags := 0x411 }
/-- [J -/
def k10 : Class := { plain "[J" (some 0) with kind := .array 9 .long, interfaces := #[3, 4], accessFlags := 1041 }

def heap : Heap := #[]
def classes : Array Class := #[k0, k1, k2, k3, k4, k5, k6, k7, k8, k9, k10]
def interned : List (Array UInt16 × Addr) := []
def slotsUsed : Nat := 0
def theMethod : MethodId := ⟨1, 1⟩
def args0 : Array Value := #[.long 1, .long 2, .long 3, .long 4, .int 5]
def aboutOver (below : List Frame) : State where
  vm := { classes := classes, interned := interned.toArray }
  heap := heap
  slotsUsed := slotsUsed
  threads := #[{ frames := .invoking theMethod args0 :: below }]
def below0 : List Frame := [.native { method := ⟨0, 0⟩, args := #[] }]
def about1 : State := aboutOver below0
def p0 : Program := .bare "" "" ""
def e0 : Env := launch0.env 0 0 0
theorem w_frames : about1.frames = Frame.invoking theMethod args0 :: below0 := rfl
set_option maxRecDepth 65536 in
theorem w_args : argsFit about1.vm theMethod args0 = true := by decide +kernel
set_option maxRecDepth 65536 in
theorem w_heap : heapFits about1 = true := by decide +kernel
set_option maxRecDepth 65536 in
theorem w_runnable : about1.curStatus? = some .runnable := by decide +kernel
set_option maxRecDepth 65536 in
theorem w_alone : about1.alone = true := by decide +kernel
set_option maxRecDepth 65536 in
theorem w_named : about1.methodNamed? x = some theMethod := by decide +kernel
set_option maxRecDepth 65536 in
theorem w_hears : about1.hears theMethod below0 = true := by decide +kernel
set_option maxRecDepth 65536 in
theorem w_ripe : about1.ripe theMethod args0 below0 = true := by decide +kernel
theorem w_running : about1.status = .running := rfl
set_option maxRecDepth 65536 in
theorem w_room : about1.hasRoom e0.platform room_1 = true :=
  launch0.hasRoom_least _ room_1 (by decide +kernel) (by decide +kernel) (by decide +kernel) (by decide +kernel) (by decide +kernel) (by decide +kernel)
theorem allAtoms_all (ts : List Jvm.Cond) (a : Array Jvm.Value) (st : Jvm.State) : (allAtoms ts).before a st = ts.all (fun c => c.before a st) := by
  induction ts with
  | nil => rfl
  | cons c t ih =>
    show (Jvm.Cond.and c (allAtoms t)).before a st = _
    rw [Jvm.Cond.before_and, ih, List.all_cons]
def words1 : List Jvm.Cond := Jvm.Cond.code x code maxLocals ret :: tables_1
/-- a 'code' word, met by the world's own term for the bytes: nothing is compared byte by byte -/
theorem code_word {y : MethodName} {bytes : ByteArray} {mx : Nat} {rt : Option FieldType} {a : Array Value} {s : State} {m : MethodId} {meth : Method} {c : Code} (h1 : s.methodNamed? y = some m) (h2 : s.vm.method? m = some meth) (h3 : meth.code = some c) (h4 : c.code = bytes)
    (h5 : (c.maxLocals == mx && c.exceptionTable.isEmpty && decide (c.maxStack ≤ mostOperands) && decide (meth.sig.returnType = rt) && !meth.locks && decide (parseMethodDescriptor y.desc = some meth.sig)) = true) : (Jvm.Cond.code y bytes mx rt).before a s = true := by
  simp only [Bool.and_eq_true, beq_iff_eq, Bool.not_eq_true', decide_eq_true_eq] at h5
  obtain ⟨⟨⟨⟨⟨g1, g2⟩, g3⟩, g4⟩, g5⟩, g6⟩ := h5
  simp [Cond.before, Cond.holds, Cond.value, h1, h2, h3, h4, g1, g2, g3, g4, g5, g6]
def isCode : Jvm.Cond → Bool
  | .code _ _ _ _ => true
  | _ => false
theorem all_split {L : List Jvm.Cond} {P : Jvm.Cond → Bool} (h1 : L.all (fun c => isCode c || P c) = true) (h2 : ∀ c ∈ L.filter isCode, P c = true) : L.all P = true := by
  refine List.all_eq_true.mpr fun c hc => ?_
  have h := List.all_eq_true.mp h1 c hc
  rcases Bool.eq_false_or_eq_true (isCode c) with hi | hi
  · exact h2 c (List.mem_filter.mpr ⟨hc, hi⟩)
  · simpa [hi] using h
set_option maxRecDepth 65536 in
theorem w_c0 : (Jvm.Cond.code x code maxLocals ret).before args0 about1 = true := code_word (m := ⟨1, 1⟩) (meth := k1m1) (c := k1c1) (by decide +kernel) rfl rfl rfl (by decide +kernel)
set_option maxRecDepth 65536 in
theorem w_c1 : (Jvm.Cond.code ({ cls := "com/example/estiba/estiba/placement/Bits", name := "meet", desc := "([J[J)Z" } : Jvm.MethodName) prog_12_method_10_code (4 : Nat) (Option.some Jvm.ClassFile.FieldType.boolean)).before args0 about1 = true := code_word (m := ⟨2, 1⟩) (meth := k2m1) (c := k2c1) (by decide +kernel) rfl rfl rfl (by decide +kernel)
def codes1 : List Jvm.Cond := [Jvm.Cond.code x code maxLocals ret, Jvm.Cond.code ({ cls := "com/example/estiba/estiba/placement/Bits", name := "meet", desc := "([J[J)Z" } : Jvm.MethodName) prog_12_method_10_code (4 : Nat) (Option.some Jvm.ClassFile.FieldType.boolean)]
set_option maxRecDepth 65536 in
theorem codes_eq : words1.filter isCode = codes1 := rfl
theorem w_codes : ∀ c ∈ words1.filter isCode, c.before args0 about1 = true := by
  rw [codes_eq]
  intro c hc
  simp only [codes1, List.mem_cons, List.not_mem_nil, or_false] at hc
  rcases hc with rfl | rfl
  · exact w_c0
  · exact w_c1
set_option maxRecDepth 65536 in
theorem w_t1 : words1.all (fun c => isCode c || c.before args0 about1) = true := by decide +kernel
theorem w_tables : (allAtoms (Jvm.Cond.code x code maxLocals ret :: tables_1)).before args0 about1 = true := by
  rw [allAtoms_all]
  show words1.all (fun c => c.before args0 about1) = true
  refine all_split ?_ w_codes
  rw [w_t1]
set_option maxRecDepth 65536 in
theorem w_case : (Jvm.Cond.and given_1 narrow_1).before args0 about1 = true := by decide +kernel
theorem w_applies : (headSpec (Jvm.Cond.code x code maxLocals ret :: tables_1) room_1).applies x e0.platform about1 = true :=
  (Spec.applies_iff w_frames).mpr ⟨w_running, w_runnable, w_alone, w_named, w_hears, w_ripe, w_room, w_tables⟩
theorem atStart : AtStart classFile x code maxLocals ret World_1 tables_1 room_1 Calls_1 rest_1 Pre_1 launch0 p0 e0 about1 theMethod args0 below0 :=
  ⟨lists_1, trivial, launch0.admits_env _ _ _, launch0.least_env, fairChoices_fair.cas, fairChoices_fair.clock, w_frames, w_args, w_heap, w_applies, trivial, trivial, w_case⟩
end start1
theorem witness_1 : WitnessClaimed_1 := ⟨start1.p0, start1.e0, start1.about1, start1.theMethod, start1.args0, start1.below0, start1.atStart⟩
end Jvm.Pilot.@@N@@
