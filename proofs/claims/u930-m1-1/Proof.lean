import JvmDerived
import JvmDerived.Pilot.@@N@@Statement
import JvmDerived.Pilot.@@N@@Code
set_option linter.unusedVariables false
set_option linter.unusedSimpArgs false
namespace Jvm.RoadKit
open Sem ClassFile Op Lib Jvm.Stand Jvm.Free Jvm.LawKit
section New
variable {p : Program} {l : Launch} {e : Env} {R : Room} {s : State} {m : MethodId} {args : Array Value} {below : List Frame} {meth : Method} {c : Code} {T : State} {locs : List Loc} {cells slots : Nat}
theorem retI (X : Stand p l e R s m args below meth c T locs cells slots) (hx : p.tables.exec = Jvm.exec) {pc : Nat} {Ls : Array Slot} {z : Int32} {rest : List Value} (hret : meth.sig.returnType = some .int) (hd : decode c.code pc = .ok (.ireturn, 1)) {fs : List Frame}
    (hl : ∀ (f : JFrame) (acts : List Action), f.method = m → f.locked = none → f.entered = [] → (doReturn e (T.setTop f) acts (some (.int z))).1 = T.setFrames fs) : Steps p.tables e below (T.setTop (mkF m pc Ls (.int z :: rest))) (T.setFrames fs) := by
  have hm' : T.vm.method? m = some meth := X.method'
  have hn : narrow .int (.int z) = .int z := rfl
  show Steps p.tables e below (T.setTop { method := m, pc := pc, locals := Ls, stack := _ :: rest, locked := none }) _
  jvm_step X.here [X.here.top, hx, hd, hm', hret, hn]
  first | (intro acts; rw [hl _ acts rfl rfl rfl]) | rw [hl _ _ rfl rfl rfl]
  exact Steps.refl _
end New
end Jvm.RoadKit
namespace Jvm.Pilot.@@N@@
open Jvm Jvm.ClassFile Sem Op Lib Jvm.Free Jvm.Stand Jvm.LawKit Jvm.RoadKit Bundle Jvm.Pilot.@@N@@.Jvm.D

theorem own_b31 (b : Int32) (h : b.toInt8.toInt32 = b) : (b &&& (255 : Int32)) = (31 : Int32) ↔ b = (31 : Int32) := by
  have k : ∀ v : BitVec 8, ((Int8.ofBitVec v).toInt32 &&& (255 : Int32)) = (31 : Int32) ↔ (Int8.ofBitVec v).toInt32 = (31 : Int32) := by decide +kernel
  have := k b.toInt8.toBitVec
  rw [show Int8.ofBitVec b.toInt8.toBitVec = b.toInt8 from rfl, h] at this
  exact this
theorem own_b139 (b : Int32) (h : b.toInt8.toInt32 = b) : (b &&& (255 : Int32)) = (139 : Int32) ↔ b = (-117 : Int32) := by
  have k : ∀ v : BitVec 8, ((Int8.ofBitVec v).toInt32 &&& (255 : Int32)) = (139 : Int32) ↔ (Int8.ofBitVec v).toInt32 = (-117 : Int32) := by decide +kernel
  have := k b.toInt8.toBitVec
  rw [show Int8.ofBitVec b.toInt8.toBitVec = b.toInt8 from rfl, h] at this
  exact this
theorem own_by (y : Int32) : y.toInt8.toInt32.toInt8.toInt32 = y.toInt8.toInt32 := by simp
theorem own_and3 (q : Int32) : (q &&& (3 : Int32)) = 0 ∨ (q &&& (3 : Int32)) = 1 ∨ (q &&& (3 : Int32)) = 2 ∨ (q &&& (3 : Int32)) = 3 := by
  have h : (q &&& (3 : Int32)).toBitVec = q.toBitVec &&& 3#32 := rfl
  have e : (q.toBitVec &&& 3#32).toNat = q.toBitVec.toNat % 4 := by rw [BitVec.toNat_and]; exact Nat.and_two_pow_sub_one_eq_mod _ 2
  have hl : q.toBitVec.toNat % 4 = 0 ∨ q.toBitVec.toNat % 4 = 1 ∨ q.toBitVec.toNat % 4 = 2 ∨ q.toBitVec.toNat % 4 = 3 := by omega
  rcases hl with k | k | k | k <;> rw [k] at e
  · exact Or.inl (Int32.toBitVec.inj (h.trans (BitVec.eq_of_toNat_eq e)))
  · exact Or.inr (Or.inl (Int32.toBitVec.inj (h.trans (BitVec.eq_of_toNat_eq e))))
  · exact Or.inr (Or.inr (Or.inl (Int32.toBitVec.inj (h.trans (BitVec.eq_of_toNat_eq e)))))
  · exact Or.inr (Or.inr (Or.inr (Int32.toBitVec.inj (h.trans (BitVec.eq_of_toNat_eq e)))))
/-- what begins returns for an array of z bytes, the first two b0, b1 -/
def own_begins (z b0 b1 : Int32) : Int32 := if z < 2 then 0 else if (b0 &&& (255 : Int32)) = (31 : Int32) then (if (b1 &&& (255 : Int32)) = (139 : Int32) then 1 else 0) else 0
/-- what the law expects -/
def own_exp (z b0 b1 : Int32) : Int32 := if z < 2 then 0 else if b0 = (31 : Int32) then (if b1 = (-117 : Int32) then 1 else 0) else 0
theorem own_same (z b0 b1 : Int32) (h0 : b0.toInt8.toInt32 = b0) (h1 : b1.toInt8.toInt32 = b1) : own_begins z b0 b1 = own_exp z b0 b1 := by
  unfold own_begins own_exp
  simp only [own_b31 b0 h0, own_b139 b1 h1]
theorem d1_6 : decode prog_12_method_4_code 6 = .ok (.aload_n 0, 1) := by decide +kernel
theorem d1_7 : decode prog_12_method_4_code 7 = .ok (.iconst 0, 1) := by decide +kernel
theorem d1_8 : decode prog_12_method_4_code 8 = .ok (.baload, 1) := by decide +kernel
theorem d1_9 : decode prog_12_method_4_code 9 = .ok (.sipush 255, 3) := by decide +kernel
theorem d1_12 : decode prog_12_method_4_code 12 = .ok (.iand, 1) := by decide +kernel
theorem d1_13 : decode prog_12_method_4_code 13 = .ok (.bipush 31, 2) := by decide +kernel
theorem d1_15 : decode prog_12_method_4_code 15 = .ok (.if_icmp .ne 20, 3) := by decide +kernel
theorem d1_18 : decode prog_12_method_4_code 18 = .ok (.aload_n 0, 1) := by decide +kernel
theorem d1_19 : decode prog_12_method_4_code 19 = .ok (.iconst 1, 1) := by decide +kernel
theorem d1_20 : decode prog_12_method_4_code 20 = .ok (.baload, 1) := by decide +kernel
theorem d1_21 : decode prog_12_method_4_code 21 = .ok (.sipush 255, 3) := by decide +kernel
theorem d1_24 : decode prog_12_method_4_code 24 = .ok (.iand, 1) := by decide +kernel
theorem d1_25 : decode prog_12_method_4_code 25 = .ok (.sipush 139, 3) := by decide +kernel
theorem d1_28 : decode prog_12_method_4_code 28 = .ok (.if_icmp .ne 7, 3) := by decide +kernel
theorem d1_31 : decode prog_12_method_4_code 31 = .ok (.iconst 1, 1) := by decide +kernel
theorem d1_32 : decode prog_12_method_4_code 32 = .ok (.goto 4, 3) := by decide +kernel
theorem d1_0 : decode prog_12_method_4_code 0 = .ok (.aload_n 0, 1) := by decide +kernel
theorem d1_1 : decode prog_12_method_4_code 1 = .ok (.arraylength, 1) := by decide +kernel
theorem d1_2 : decode prog_12_method_4_code 2 = .ok (.iconst 2, 1) := by decide +kernel
theorem d1_3 : decode prog_12_method_4_code 3 = .ok (.if_icmp .lt 32, 3) := by decide +kernel
theorem d1_35 : decode prog_12_method_4_code 35 = .ok (.iconst 0, 1) := by decide +kernel
theorem d1_36 : decode prog_12_method_4_code 36 = .ok (.ireturn, 1) := by decide +kernel
theorem pn_1 : plainName "com/example/libtrawl/libtrawl/GzipSource" = true := by first | (simp [plainName, overriddenIn]; done) | decide +kernel
theorem ef_1 (m : MethodId) (x0 : Addr) : entryFrame m #[(.ref x0)] 1 = mkF m 0 #[.val (.ref x0)] [] := by first | (simp [entryFrame, mkF, argsToLocals, Value.category]; done) | rfl
def Q1 (Z : State) (a1 : Addr) (z b0 b1 : Int32) (kc : ClassId) (vs : List Value) (h0 : Heap) (n0 : Nat) (v : Option Value) (h : Heap) (L : List Loc) : Prop := v = some (.int (own_begins z b0 b1)) ∧ Fr n0 L ∧ h = h0
set_option maxRecDepth 65536 in
set_option maxHeartbeats 40000000 in
theorem rm1 (l : Launch) (Z : State) (a0 : Array Value) (hw : ∀ d ∈ tables_1, d.before a0 Z = true) (ws : List Jvm.Cond) (a1 : Addr) (z b0 b1 : Int32) (kc : ClassId) (vs : List Value) (h0 : Heap) (n0 : Nat) (Z0 : n0 ≤ h0.size) (V : Arv Z h0 a1 kc .byte z vs (.int 0)) (hv0 : ¬ z < 2 → vs.getD 0 (.int 0) = .int b0) (hv1 : ¬ z < 2 → vs.getD 1 (.int 0) = .int b1) :
    MetFree l (⟨"com/example/libtrawl/libtrawl/GzipSource", "begins", "([B)Z"⟩ : MethodName) (head1 (Jvm.Cond.code (⟨"com/example/libtrawl/libtrawl/GzipSource", "begins", "([B)Z"⟩ : MethodName) prog_12_method_4_code 1 (some .boolean) :: ws) ({ frames := 0, cells := 0, slots := 0, locals := 0 } : Room)) (fun a U => a = #[(.ref a1)] ∧ Z.Warmed39 U.vm ∧ U.heap = h0) (fun _ _ _ _ _ => True) (fun _ U o U' => ∃ v L, o = .returned v ∧ Q1 Z a1 z b0 b1 kc vs h0 n0 v U'.heap L ∧ FrameEnd U o U' L ({ frames := 0, cells := 0, slots := 0, locals := 0 } : Room).cells ({ frames := 0, cells := 0, slots := 0, locals := 0 } : Room).slots) := by
  refine MetFree.of_bodySF (plainFor_of_name pn_1) hisR ?_
  intro p e s m args below meth c s₁ Bd hml0 hP hK
  obtain ⟨rfl, hZ, hh⟩ := hP
  have hx := Bd.exec
  have hby := Bd.bytes
  have hml : c.maxLocals = 1 := hml0
  have hown : s.vm.findClass "com/example/libtrawl/libtrawl/GzipSource" = some m.cls := findClass_of_methodNamed Bd.named
  have hnm := (name_of_methodNamed Bd.named Bd.method).1
  have X0 : Stand p l e ({ frames := 0, cells := 0, slots := 0, locals := 0 } : Room) s m #[(.ref a1)] below meth c s₁ [] 0 0 := Stand.of_body Bd
  have e0 : s₁.heap = h0 := by rw [← hh, Bd.state]; rfl
  have N0 := Fr.nil n0
  have pre0 : ∀ t, Steps p.tables e below (s₁.setTop (mkF m 0 #[.val (.ref a1)] [])) t → Steps p.tables e below (s₁.setTop (entryFrame m #[(.ref a1)] 1)) t := fun t k => castTop (ef_1 m a1) k
  obtain ⟨cl, Ar, qc, S, Nn, H, G⟩ := V
  by_cases hz : z < (2 : Int32)
  · have hc3_1 : z < (2 : Int32) := hz
    have st_1p : ∀ target, Steps p.tables e below (s₁.setTop (mkF m 36 #[.val (.ref a1)] [(.int (0 : Int32))])) target → Steps p.tables e below (s₁.setTop (mkF m 0 #[.val (.ref a1)] [])) target := by
      intro target kt
      show Steps p.tables e below (s₁.setTop (mkF m 0 #[.val (.ref a1)] [])) _
      refine XS.aloadN X0.here hx rfl (hb hby d1_0) rfl rfl ?_
      show Steps p.tables e below (s₁.setTop (mkF m 1 #[.val (.ref a1)] [(.ref a1)])) _
      refine X0.arraylength hx (by rw [e0]; exact Ar.1) (State.isArrayOf_alike hZ.alike Ar.2.1) (g := (mkF m 1 #[.val (.ref a1)] [(.ref a1)])) rfl rfl (hb hby d1_1) _ ?_
      rw [len_of S Nn]
      show Steps p.tables e below (s₁.setTop (mkF m 2 #[.val (.ref a1)] [(.int z)])) _
      refine XS.iconst X0.here hx rfl (hb hby d1_2) ?_
      show Steps p.tables e below (s₁.setTop (mkF m 3 #[.val (.ref a1)] [(.int (2 : Int32)), (.int z)])) _
      refine XS.icmpYes X0.here hx rfl (pc0 := 3) (pc' := 35) rfl (hb hby d1_3) rfl (tlt hc3_1).1 (by decide) (by decide) ?_
      show Steps p.tables e below (s₁.setTop (mkF m 35 #[.val (.ref a1)] [])) _
      refine XS.iconst X0.here hx rfl (hb hby d1_35) ?_
      exact kt
    obtain ⟨fs, hr, hrun, hended, hW, hsame⟩ := X0.leave (v := some (.int (0 : Int32))) (fun h => by rw [Bd.returns] at h; cases h)
    refine ⟨_, _, pre0 _ ?_, hrun, hended, _, _, rfl, ?_, ⟨_, rfl⟩, hW, hsame.mono (by decide) (by decide)⟩
    · show Steps p.tables e below (s₁.setTop (mkF m 0 #[.val (.ref a1)] [])) _
      refine st_1p _ ?_
      exact retN X0 hx (t := .boolean) Bd.returns (by simp) (hb hby d1_36) hr
    · show Q1 Z a1 z b0 b1 kc vs h0 n0 _ s₁.heap _
      rw [e0]
      exact ⟨by simp [own_begins, hz], N0, rfl⟩
  · have h2z : (2 : Int32) ≤ z := Int32.not_lt.mp hz
    have hi0 : ¬ ((0 : Int32) < 0 ∨ cl.slots.size ≤ ((0 : Int32)).toNatClampNeg) := inb_of S ⟨by decide, Int32.lt_of_lt_of_le (by decide) h2z⟩
    have hi1 : ¬ ((1 : Int32) < 0 ∨ cl.slots.size ≤ ((1 : Int32)).toNatClampNeg) := inb_of S ⟨by decide, Int32.lt_of_lt_of_le (by decide) h2z⟩
    by_cases h31 : (b0 &&& (255 : Int32)) = (31 : Int32)
    · by_cases h139 : (b1 &&& (255 : Int32)) = (139 : Int32)
      · have hc3_2 : ¬ (z < (2 : Int32)) := hz
        have hc15_2 : (b0 &&& (255 : Int32)) = (31 : Int32) := h31
        have hc28_2 : (b1 &&& (255 : Int32)) = (139 : Int32) := h139
        have st_2p : ∀ target, Steps p.tables e below (s₁.setTop (mkF m 36 #[.val (.ref a1)] [(.int (1 : Int32))])) target → Steps p.tables e below (s₁.setTop (mkF m 0 #[.val (.ref a1)] [])) target := by
          intro target kt
          show Steps p.tables e below (s₁.setTop (mkF m 0 #[.val (.ref a1)] [])) _
          refine XS.aloadN X0.here hx rfl (hb hby d1_0) rfl rfl ?_
          show Steps p.tables e below (s₁.setTop (mkF m 1 #[.val (.ref a1)] [(.ref a1)])) _
          refine X0.arraylength hx (by rw [e0]; exact Ar.1) (State.isArrayOf_alike hZ.alike Ar.2.1) (g := (mkF m 1 #[.val (.ref a1)] [(.ref a1)])) rfl rfl (hb hby d1_1) _ ?_
          rw [len_of S Nn]
          show Steps p.tables e below (s₁.setTop (mkF m 2 #[.val (.ref a1)] [(.int z)])) _
          refine XS.iconst X0.here hx rfl (hb hby d1_2) ?_
          show Steps p.tables e below (s₁.setTop (mkF m 3 #[.val (.ref a1)] [(.int (2 : Int32)), (.int z)])) _
          refine XS.icmpNo X0.here hx rfl (hb hby d1_3) rfl (flt hc3_2).1 ?_
          show Steps p.tables e below (s₁.setTop (mkF m 6 #[.val (.ref a1)] [])) _
          refine XS.aloadN X0.here hx rfl (hb hby d1_6) rfl rfl ?_
          show Steps p.tables e below (s₁.setTop (mkF m 7 #[.val (.ref a1)] [(.ref a1)])) _
          refine XS.iconst X0.here hx rfl (hb hby d1_7) ?_
          show Steps p.tables e below (s₁.setTop (mkF m 8 #[.val (.ref a1)] [(.int (0 : Int32)), (.ref a1)])) _
          refine X0.baloadBytes hx (j := (0 : Int32)) (v := (.int b0)) (by rw [e0]; exact Ar.1) (State.isArrayOf_alike hZ.alike Ar.2.1) Ar.2.2 hi0 (Has.at H hi0 (hv0 hz)) (g := (mkF m 8 #[.val (.ref a1)] [(.int (0 : Int32)), (.ref a1)])) rfl rfl (hb hby d1_8) _ ?_
          show Steps p.tables e below (s₁.setTop (mkF m 9 #[.val (.ref a1)] [(.int b0)])) _
          refine XS.sipush X0.here hx rfl (hb hby d1_9) ?_
          show Steps p.tables e below (s₁.setTop (mkF m 12 #[.val (.ref a1)] [(.int (255 : Int32)), (.int b0)])) _
          refine XS.iand X0.here hx rfl (hb hby d1_12) rfl ?_
          show Steps p.tables e below (s₁.setTop (mkF m 13 #[.val (.ref a1)] [(.int (b0 &&& (255 : Int32)))])) _
          refine XS.bipush X0.here hx rfl (hb hby d1_13) ?_
          show Steps p.tables e below (s₁.setTop (mkF m 15 #[.val (.ref a1)] [(.int (31 : Int32)), (.int (b0 &&& (255 : Int32)))])) _
          refine XS.icmpNo X0.here hx rfl (hb hby d1_15) rfl (teq hc15_2).2 ?_
          show Steps p.tables e below (s₁.setTop (mkF m 18 #[.val (.ref a1)] [])) _
          refine XS.aloadN X0.here hx rfl (hb hby d1_18) rfl rfl ?_
          show Steps p.tables e below (s₁.setTop (mkF m 19 #[.val (.ref a1)] [(.ref a1)])) _
          refine XS.iconst X0.here hx rfl (hb hby d1_19) ?_
          show Steps p.tables e below (s₁.setTop (mkF m 20 #[.val (.ref a1)] [(.int (1 : Int32)), (.ref a1)])) _
          refine X0.baloadBytes hx (j := (1 : Int32)) (v := (.int b1)) (by rw [e0]; exact Ar.1) (State.isArrayOf_alike hZ.alike Ar.2.1) Ar.2.2 hi1 (Has.at H hi1 (hv1 hz)) (g := (mkF m 20 #[.val (.ref a1)] [(.int (1 : Int32)), (.ref a1)])) rfl rfl (hb hby d1_20) _ ?_
          show Steps p.tables e below (s₁.setTop (mkF m 21 #[.val (.ref a1)] [(.int b1)])) _
          refine XS.sipush X0.here hx rfl (hb hby d1_21) ?_
          show Steps p.tables e below (s₁.setTop (mkF m 24 #[.val (.ref a1)] [(.int (255 : Int32)), (.int b1)])) _
          refine XS.iand X0.here hx rfl (hb hby d1_24) rfl ?_
          show Steps p.tables e below (s₁.setTop (mkF m 25 #[.val (.ref a1)] [(.int (b1 &&& (255 : Int32)))])) _
          refine XS.sipush X0.here hx rfl (hb hby d1_25) ?_
          show Steps p.tables e below (s₁.setTop (mkF m 28 #[.val (.ref a1)] [(.int (139 : Int32)), (.int (b1 &&& (255 : Int32)))])) _
          refine XS.icmpNo X0.here hx rfl (hb hby d1_28) rfl (teq hc28_2).2 ?_
          show Steps p.tables e below (s₁.setTop (mkF m 31 #[.val (.ref a1)] [])) _
          refine XS.iconst X0.here hx rfl (hb hby d1_31) ?_
          show Steps p.tables e below (s₁.setTop (mkF m 32 #[.val (.ref a1)] [(.int (1 : Int32))])) _
          refine XS.goto X0.here hx rfl (pc0 := 32) (pc' := 36) rfl (hb hby d1_32) (by decide) (by decide) ?_
          exact kt
        obtain ⟨fs, hr, hrun, hended, hW, hsame⟩ := X0.leave (v := some (.int (1 : Int32))) (fun h => by rw [Bd.returns] at h; cases h)
        refine ⟨_, _, pre0 _ ?_, hrun, hended, _, _, rfl, ?_, ⟨_, rfl⟩, hW, hsame.mono (by decide) (by decide)⟩
        · show Steps p.tables e below (s₁.setTop (mkF m 0 #[.val (.ref a1)] [])) _
          refine st_2p _ ?_
          exact retN X0 hx (t := .boolean) Bd.returns (by simp) (hb hby d1_36) hr
        · show Q1 Z a1 z b0 b1 kc vs h0 n0 _ s₁.heap _
          rw [e0]
          exact ⟨by simp [own_begins, hz, h31, h139], N0, rfl⟩
      · have hc3_3 : ¬ (z < (2 : Int32)) := hz
        have hc15_3 : (b0 &&& (255 : Int32)) = (31 : Int32) := h31
        have hc28_3 : ¬ ((b1 &&& (255 : Int32)) = (139 : Int32)) := h139
        have st_3p : ∀ target, Steps p.tables e below (s₁.setTop (mkF m 36 #[.val (.ref a1)] [(.int (0 : Int32))])) target → Steps p.tables e below (s₁.setTop (mkF m 0 #[.val (.ref a1)] [])) target := by
          intro target kt
          show Steps p.tables e below (s₁.setTop (mkF m 0 #[.val (.ref a1)] [])) _
          refine XS.aloadN X0.here hx rfl (hb hby d1_0) rfl rfl ?_
          show Steps p.tables e below (s₁.setTop (mkF m 1 #[.val (.ref a1)] [(.ref a1)])) _
          refine X0.arraylength hx (by rw [e0]; exact Ar.1) (State.isArrayOf_alike hZ.alike Ar.2.1) (g := (mkF m 1 #[.val (.ref a1)] [(.ref a1)])) rfl rfl (hb hby d1_1) _ ?_
          rw [len_of S Nn]
          show Steps p.tables e below (s₁.setTop (mkF m 2 #[.val (.ref a1)] [(.int z)])) _
          refine XS.iconst X0.here hx rfl (hb hby d1_2) ?_
          show Steps p.tables e below (s₁.setTop (mkF m 3 #[.val (.ref a1)] [(.int (2 : Int32)), (.int z)])) _
          refine XS.icmpNo X0.here hx rfl (hb hby d1_3) rfl (flt hc3_3).1 ?_
          show Steps p.tables e below (s₁.setTop (mkF m 6 #[.val (.ref a1)] [])) _
          refine XS.aloadN X0.here hx rfl (hb hby d1_6) rfl rfl ?_
          show Steps p.tables e below (s₁.setTop (mkF m 7 #[.val (.ref a1)] [(.ref a1)])) _
          refine XS.iconst X0.here hx rfl (hb hby d1_7) ?_
          show Steps p.tables e below (s₁.setTop (mkF m 8 #[.val (.ref a1)] [(.int (0 : Int32)), (.ref a1)])) _
          refine X0.baloadBytes hx (j := (0 : Int32)) (v := (.int b0)) (by rw [e0]; exact Ar.1) (State.isArrayOf_alike hZ.alike Ar.2.1) Ar.2.2 hi0 (Has.at H hi0 (hv0 hz)) (g := (mkF m 8 #[.val (.ref a1)] [(.int (0 : Int32)), (.ref a1)])) rfl rfl (hb hby d1_8) _ ?_
          show Steps p.tables e below (s₁.setTop (mkF m 9 #[.val (.ref a1)] [(.int b0)])) _
          refine XS.sipush X0.here hx rfl (hb hby d1_9) ?_
          show Steps p.tables e below (s₁.setTop (mkF m 12 #[.val (.ref a1)] [(.int (255 : Int32)), (.int b0)])) _
          refine XS.iand X0.here hx rfl (hb hby d1_12) rfl ?_
          show Steps p.tables e below (s₁.setTop (mkF m 13 #[.val (.ref a1)] [(.int (b0 &&& (255 : Int32)))])) _
          refine XS.bipush X0.here hx rfl (hb hby d1_13) ?_
          show Steps p.tables e below (s₁.setTop (mkF m 15 #[.val (.ref a1)] [(.int (31 : Int32)), (.int (b0 &&& (255 : Int32)))])) _
          refine XS.icmpNo X0.here hx rfl (hb hby d1_15) rfl (teq hc15_3).2 ?_
          show Steps p.tables e below (s₁.setTop (mkF m 18 #[.val (.ref a1)] [])) _
          refine XS.aloadN X0.here hx rfl (hb hby d1_18) rfl rfl ?_
          show Steps p.tables e below (s₁.setTop (mkF m 19 #[.val (.ref a1)] [(.ref a1)])) _
          refine XS.iconst X0.here hx rfl (hb hby d1_19) ?_
          show Steps p.tables e below (s₁.setTop (mkF m 20 #[.val (.ref a1)] [(.int (1 : Int32)), (.ref a1)])) _
          refine X0.baloadBytes hx (j := (1 : Int32)) (v := (.int b1)) (by rw [e0]; exact Ar.1) (State.isArrayOf_alike hZ.alike Ar.2.1) Ar.2.2 hi1 (Has.at H hi1 (hv1 hz)) (g := (mkF m 20 #[.val (.ref a1)] [(.int (1 : Int32)), (.ref a1)])) rfl rfl (hb hby d1_20) _ ?_
          show Steps p.tables e below (s₁.setTop (mkF m 21 #[.val (.ref a1)] [(.int b1)])) _
          refine XS.sipush X0.here hx rfl (hb hby d1_21) ?_
          show Steps p.tables e below (s₁.setTop (mkF m 24 #[.val (.ref a1)] [(.int (255 : Int32)), (.int b1)])) _
          refine XS.iand X0.here hx rfl (hb hby d1_24) rfl ?_
          show Steps p.tables e below (s₁.setTop (mkF m 25 #[.val (.ref a1)] [(.int (b1 &&& (255 : Int32)))])) _
          refine XS.sipush X0.here hx rfl (hb hby d1_25) ?_
          show Steps p.tables e below (s₁.setTop (mkF m 28 #[.val (.ref a1)] [(.int (139 : Int32)), (.int (b1 &&& (255 : Int32)))])) _
          refine XS.icmpYes X0.here hx rfl (pc0 := 28) (pc' := 35) rfl (hb hby d1_28) rfl (feq hc28_3).2 (by decide) (by decide) ?_
          show Steps p.tables e below (s₁.setTop (mkF m 35 #[.val (.ref a1)] [])) _
          refine XS.iconst X0.here hx rfl (hb hby d1_35) ?_
          exact kt
        obtain ⟨fs, hr, hrun, hended, hW, hsame⟩ := X0.leave (v := some (.int (0 : Int32))) (fun h => by rw [Bd.returns] at h; cases h)
        refine ⟨_, _, pre0 _ ?_, hrun, hended, _, _, rfl, ?_, ⟨_, rfl⟩, hW, hsame.mono (by decide) (by decide)⟩
        · show Steps p.tables e below (s₁.setTop (mkF m 0 #[.val (.ref a1)] [])) _
          refine st_3p _ ?_
          exact retN X0 hx (t := .boolean) Bd.returns (by simp) (hb hby d1_36) hr
        · show Q1 Z a1 z b0 b1 kc vs h0 n0 _ s₁.heap _
          rw [e0]
          exact ⟨by simp [own_begins, hz, h31, h139], N0, rfl⟩
    · have hc3_4 : ¬ (z < (2 : Int32)) := hz
      have hc15_4 : ¬ ((b0 &&& (255 : Int32)) = (31 : Int32)) := h31
      have st_4p : ∀ target, Steps p.tables e below (s₁.setTop (mkF m 36 #[.val (.ref a1)] [(.int (0 : Int32))])) target → Steps p.tables e below (s₁.setTop (mkF m 0 #[.val (.ref a1)] [])) target := by
        intro target kt
        show Steps p.tables e below (s₁.setTop (mkF m 0 #[.val (.ref a1)] [])) _
        refine XS.aloadN X0.here hx rfl (hb hby d1_0) rfl rfl ?_
        show Steps p.tables e below (s₁.setTop (mkF m 1 #[.val (.ref a1)] [(.ref a1)])) _
        refine X0.arraylength hx (by rw [e0]; exact Ar.1) (State.isArrayOf_alike hZ.alike Ar.2.1) (g := (mkF m 1 #[.val (.ref a1)] [(.ref a1)])) rfl rfl (hb hby d1_1) _ ?_
        rw [len_of S Nn]
        show Steps p.tables e below (s₁.setTop (mkF m 2 #[.val (.ref a1)] [(.int z)])) _
        refine XS.iconst X0.here hx rfl (hb hby d1_2) ?_
        show Steps p.tables e below (s₁.setTop (mkF m 3 #[.val (.ref a1)] [(.int (2 : Int32)), (.int z)])) _
        refine XS.icmpNo X0.here hx rfl (hb hby d1_3) rfl (flt hc3_4).1 ?_
        show Steps p.tables e below (s₁.setTop (mkF m 6 #[.val (.ref a1)] [])) _
        refine XS.aloadN X0.here hx rfl (hb hby d1_6) rfl rfl ?_
        show Steps p.tables e below (s₁.setTop (mkF m 7 #[.val (.ref a1)] [(.ref a1)])) _
        refine XS.iconst X0.here hx rfl (hb hby d1_7) ?_
        show Steps p.tables e below (s₁.setTop (mkF m 8 #[.val (.ref a1)] [(.int (0 : Int32)), (.ref a1)])) _
        refine X0.baloadBytes hx (j := (0 : Int32)) (v := (.int b0)) (by rw [e0]; exact Ar.1) (State.isArrayOf_alike hZ.alike Ar.2.1) Ar.2.2 hi0 (Has.at H hi0 (hv0 hz)) (g := (mkF m 8 #[.val (.ref a1)] [(.int (0 : Int32)), (.ref a1)])) rfl rfl (hb hby d1_8) _ ?_
        show Steps p.tables e below (s₁.setTop (mkF m 9 #[.val (.ref a1)] [(.int b0)])) _
        refine XS.sipush X0.here hx rfl (hb hby d1_9) ?_
        show Steps p.tables e below (s₁.setTop (mkF m 12 #[.val (.ref a1)] [(.int (255 : Int32)), (.int b0)])) _
        refine XS.iand X0.here hx rfl (hb hby d1_12) rfl ?_
        show Steps p.tables e below (s₁.setTop (mkF m 13 #[.val (.ref a1)] [(.int (b0 &&& (255 : Int32)))])) _
        refine XS.bipush X0.here hx rfl (hb hby d1_13) ?_
        show Steps p.tables e below (s₁.setTop (mkF m 15 #[.val (.ref a1)] [(.int (31 : Int32)), (.int (b0 &&& (255 : Int32)))])) _
        refine XS.icmpYes X0.here hx rfl (pc0 := 15) (pc' := 35) rfl (hb hby d1_15) rfl (feq hc15_4).2 (by decide) (by decide) ?_
        show Steps p.tables e below (s₁.setTop (mkF m 35 #[.val (.ref a1)] [])) _
        refine XS.iconst X0.here hx rfl (hb hby d1_35) ?_
        exact kt
      obtain ⟨fs, hr, hrun, hended, hW, hsame⟩ := X0.leave (v := some (.int (0 : Int32))) (fun h => by rw [Bd.returns] at h; cases h)
      refine ⟨_, _, pre0 _ ?_, hrun, hended, _, _, rfl, ?_, ⟨_, rfl⟩, hW, hsame.mono (by decide) (by decide)⟩
      · show Steps p.tables e below (s₁.setTop (mkF m 0 #[.val (.ref a1)] [])) _
        refine st_4p _ ?_
        exact retN X0 hx (t := .boolean) Bd.returns (by simp) (hb hby d1_36) hr
      · show Q1 Z a1 z b0 b1 kc vs h0 n0 _ s₁.heap _
        rw [e0]
        exact ⟨by simp [own_begins, hz, h31], N0, rfl⟩

theorem pn_0 : plainName "com/example/libtrawl/libtrawl/GzipSourceBeginsPinLaw" = true := by first | (simp [plainName, overriddenIn]; done) | decide +kernel
theorem pd_0 : parseMethodDescriptor "([B)Z" = some ⟨[(.array .byte)], some .boolean⟩ := by decide +kernel
theorem ef_0 (m : MethodId) (x0 : Int32) (x1 : Int32) (x2 : Int32) (x3 : Int32) : entryFrame m #[(.int x0), (.int x1), (.int x2), (.int x3)] maxLocals = mkF m 0 #[.val (.int x0), .val (.int x1), .val (.int x2), .val (.int x3), .unset, .unset, .unset, .unset, .unset, .unset] [] := by first | (simp [entryFrame, mkF, argsToLocals, Value.category, maxLocals]; done) | rfl
def Q0 (Z : State) (p1 : Int32) (p2 : Int32) (p3 : Int32) (p4 : Int32) (h0 : Heap) (n0 : Nat) (v : Option Value) (h : Heap) (L : List Loc) : Prop := v = some (.int (1 : Int32)) ∧ Fr n0 L
set_option maxRecDepth 65536 in
set_option maxHeartbeats 40000000 in
theorem rm0 (l : Launch) (Z : State) (a0 : Array Value) (hw : ∀ d ∈ tables_1, d.before a0 Z = true) (ws : List Jvm.Cond) (p1 : Int32) (p2 : Int32) (p3 : Int32) (p4 : Int32) (h0 : Heap) (n0 : Nat) (Z0 : n0 ≤ h0.size) :
    MetFree l x (head1 (Jvm.Cond.code x code maxLocals ret :: ws) room_1) (fun a U => a = #[(.int p1), (.int p2), (.int p3), (.int p4)] ∧ Z.Warmed39 U.vm ∧ U.heap = h0) (fun _ _ _ _ _ => True) (fun _ U o U' => ∃ v L, o = .returned v ∧ Q0 Z p1 p2 p3 p4 h0 n0 v U'.heap L ∧ FrameEnd U o U' L room_1.cells room_1.slots) := by
  refine MetFree.of_bodySF (plainFor_of_name pn_0) hisR ?_
  intro p e s m args below meth c s₁ Bd hml0 hP hK
  obtain ⟨rfl, hZ, hh⟩ := hP
  have hx := Bd.exec
  have hby := Bd.bytes
  have hml : c.maxLocals = 10 := hml0
  have hown : s.vm.findClass "com/example/libtrawl/libtrawl/GzipSourceBeginsPinLaw" = some m.cls := findClass_of_methodNamed Bd.named
  have hnm := (name_of_methodNamed Bd.named Bd.method).1
  have X0 : Stand p l e room_1 s m #[(.int p1), (.int p2), (.int p3), (.int p4)] below meth c s₁ [] 0 0 := Stand.of_body Bd
  have e0 : s₁.heap = h0 := by rw [← hh, Bd.state]; rfl
  have N0 := Fr.nil n0
  have pre0 : ∀ t, Steps p.tables e below (s₁.setTop (mkF m 0 #[.val (.int p1), .val (.int p2), .val (.int p3), .val (.int p4), .unset, .unset, .unset, .unset, .unset, .unset] [])) t → Steps p.tables e below (s₁.setTop (entryFrame m #[(.int p1), (.int p2), (.int p3), (.int p4)] maxLocals)) t := fun t k => castTop (ef_0 m p1 p2 p3 p4) k
  obtain ⟨n, b0, hA, st_3p⟩ : ∃ (n : Int32) (b0 : Int32), ((n = 0 ∨ n = 1 ∨ n = 2 ∨ n = 3) ∧ b0.toInt8.toInt32 = b0) ∧ ∀ target, Steps p.tables e below (s₁.setTop (mkF m 22 #[.val (.int p1), .val (.int p2), .val (.int p3), .val (.int p4), .val (.int n), .val (.int b0), .unset, .unset, .unset, .unset] [])) target → Steps p.tables e below (s₁.setTop (mkF m 0 #[.val (.int p1), .val (.int p2), .val (.int p3), .val (.int p4), .unset, .unset, .unset, .unset, .unset, .unset] [])) target := by
    by_cases hc10 : (p2 &&& (256 : Int32)) = (0 : Int32)
    · refine ⟨(p1 &&& (3 : Int32)), (p2.toInt8.toInt32), ⟨own_and3 _, own_by _⟩, fun target kt => ?_⟩
      show Steps p.tables e below (s₁.setTop (mkF m 0 #[.val (.int p1), .val (.int p2), .val (.int p3), .val (.int p4), .unset, .unset, .unset, .unset, .unset, .unset] [])) _
      refine XS.iloadN X0.here hx rfl (hb hby at_0) rfl ?_
      show Steps p.tables e below (s₁.setTop (mkF m 1 #[.val (.int p1), .val (.int p2), .val (.int p3), .val (.int p4), .unset, .unset, .unset, .unset, .unset, .unset] [(.int p1)])) _
      refine XS.iconst X0.here hx rfl (hb hby at_1) ?_
      show Steps p.tables e below (s₁.setTop (mkF m 2 #[.val (.int p1), .val (.int p2), .val (.int p3), .val (.int p4), .unset, .unset, .unset, .unset, .unset, .unset] [(.int (3 : Int32)), (.int p1)])) _
      refine XS.iand X0.here hx rfl (hb hby at_2) rfl ?_
      show Steps p.tables e below (s₁.setTop (mkF m 3 #[.val (.int p1), .val (.int p2), .val (.int p3), .val (.int p4), .unset, .unset, .unset, .unset, .unset, .unset] [(.int (p1 &&& (3 : Int32)))])) _
      refine XS.istore X0.here hx rfl (hb hby at_3) rfl (l' := #[.val (.int p1), .val (.int p2), .val (.int p3), .val (.int p4), .val (.int (p1 &&& (3 : Int32))), .unset, .unset, .unset, .unset, .unset]) rfl ?_
      show Steps p.tables e below (s₁.setTop (mkF m 5 #[.val (.int p1), .val (.int p2), .val (.int p3), .val (.int p4), .val (.int (p1 &&& (3 : Int32))), .unset, .unset, .unset, .unset, .unset] [])) _
      refine XS.iloadN X0.here hx rfl (hb hby at_5) rfl ?_
      show Steps p.tables e below (s₁.setTop (mkF m 6 #[.val (.int p1), .val (.int p2), .val (.int p3), .val (.int p4), .val (.int (p1 &&& (3 : Int32))), .unset, .unset, .unset, .unset, .unset] [(.int p2)])) _
      refine XS.sipush X0.here hx rfl (hb hby at_6) ?_
      show Steps p.tables e below (s₁.setTop (mkF m 9 #[.val (.int p1), .val (.int p2), .val (.int p3), .val (.int p4), .val (.int (p1 &&& (3 : Int32))), .unset, .unset, .unset, .unset, .unset] [(.int (256 : Int32)), (.int p2)])) _
      refine XS.iand X0.here hx rfl (hb hby at_9) rfl ?_
      show Steps p.tables e below (s₁.setTop (mkF m 10 #[.val (.int p1), .val (.int p2), .val (.int p3), .val (.int p4), .val (.int (p1 &&& (3 : Int32))), .unset, .unset, .unset, .unset, .unset] [(.int (p2 &&& (256 : Int32)))])) _
      refine XS.ifYes X0.here hx rfl (pc0 := 10) (pc' := 18) rfl (hb hby at_10) rfl ((if0 _ _).trans (teq hc10).1) (by decide) (by decide) ?_
      show Steps p.tables e below (s₁.setTop (mkF m 18 #[.val (.int p1), .val (.int p2), .val (.int p3), .val (.int p4), .val (.int (p1 &&& (3 : Int32))), .unset, .unset, .unset, .unset, .unset] [])) _
      refine XS.iloadN X0.here hx rfl (hb hby at_18) rfl ?_
      show Steps p.tables e below (s₁.setTop (mkF m 19 #[.val (.int p1), .val (.int p2), .val (.int p3), .val (.int p4), .val (.int (p1 &&& (3 : Int32))), .unset, .unset, .unset, .unset, .unset] [(.int p2)])) _
      refine XS.i2b X0.here hx rfl (hb hby at_19) rfl ?_
      show Steps p.tables e below (s₁.setTop (mkF m 20 #[.val (.int p1), .val (.int p2), .val (.int p3), .val (.int p4), .val (.int (p1 &&& (3 : Int32))), .unset, .unset, .unset, .unset, .unset] [(.int (p2.toInt8.toInt32))])) _
      refine XS.istore X0.here hx rfl (hb hby at_20) rfl (l' := #[.val (.int p1), .val (.int p2), .val (.int p3), .val (.int p4), .val (.int (p1 &&& (3 : Int32))), .val (.int (p2.toInt8.toInt32)), .unset, .unset, .unset, .unset]) rfl ?_
      exact kt
    · refine ⟨(p1 &&& (3 : Int32)), (31 : Int32), ⟨own_and3 _, by decide⟩, fun target kt => ?_⟩
      show Steps p.tables e below (s₁.setTop (mkF m 0 #[.val (.int p1), .val (.int p2), .val (.int p3), .val (.int p4), .unset, .unset, .unset, .unset, .unset, .unset] [])) _
      refine XS.iloadN X0.here hx rfl (hb hby at_0) rfl ?_
      show Steps p.tables e below (s₁.setTop (mkF m 1 #[.val (.int p1), .val (.int p2), .val (.int p3), .val (.int p4), .unset, .unset, .unset, .unset, .unset, .unset] [(.int p1)])) _
      refine XS.iconst X0.here hx rfl (hb hby at_1) ?_
      show Steps p.tables e below (s₁.setTop (mkF m 2 #[.val (.int p1), .val (.int p2), .val (.int p3), .val (.int p4), .unset, .unset, .unset, .unset, .unset, .unset] [(.int (3 : Int32)), (.int p1)])) _
      refine XS.iand X0.here hx rfl (hb hby at_2) rfl ?_
      show Steps p.tables e below (s₁.setTop (mkF m 3 #[.val (.int p1), .val (.int p2), .val (.int p3), .val (.int p4), .unset, .unset, .unset, .unset, .unset, .unset] [(.int (p1 &&& (3 : Int32)))])) _
      refine XS.istore X0.here hx rfl (hb hby at_3) rfl (l' := #[.val (.int p1), .val (.int p2), .val (.int p3), .val (.int p4), .val (.int (p1 &&& (3 : Int32))), .unset, .unset, .unset, .unset, .unset]) rfl ?_
      show Steps p.tables e below (s₁.setTop (mkF m 5 #[.val (.int p1), .val (.int p2), .val (.int p3), .val (.int p4), .val (.int (p1 &&& (3 : Int32))), .unset, .unset, .unset, .unset, .unset] [])) _
      refine XS.iloadN X0.here hx rfl (hb hby at_5) rfl ?_
      show Steps p.tables e below (s₁.setTop (mkF m 6 #[.val (.int p1), .val (.int p2), .val (.int p3), .val (.int p4), .val (.int (p1 &&& (3 : Int32))), .unset, .unset, .unset, .unset, .unset] [(.int p2)])) _
      refine XS.sipush X0.here hx rfl (hb hby at_6) ?_
      show Steps p.tables e below (s₁.setTop (mkF m 9 #[.val (.int p1), .val (.int p2), .val (.int p3), .val (.int p4), .val (.int (p1 &&& (3 : Int32))), .unset, .unset, .unset, .unset, .unset] [(.int (256 : Int32)), (.int p2)])) _
      refine XS.iand X0.here hx rfl (hb hby at_9) rfl ?_
      show Steps p.tables e below (s₁.setTop (mkF m 10 #[.val (.int p1), .val (.int p2), .val (.int p3), .val (.int p4), .val (.int (p1 &&& (3 : Int32))), .unset, .unset, .unset, .unset, .unset] [(.int (p2 &&& (256 : Int32)))])) _
      refine XS.ifNo X0.here hx rfl (hb hby at_10) rfl ((if0 _ _).trans (feq hc10).1) ?_
      show Steps p.tables e below (s₁.setTop (mkF m 13 #[.val (.int p1), .val (.int p2), .val (.int p3), .val (.int p4), .val (.int (p1 &&& (3 : Int32))), .unset, .unset, .unset, .unset, .unset] [])) _
      refine XS.bipush X0.here hx rfl (hb hby at_13) ?_
      show Steps p.tables e below (s₁.setTop (mkF m 15 #[.val (.int p1), .val (.int p2), .val (.int p3), .val (.int p4), .val (.int (p1 &&& (3 : Int32))), .unset, .unset, .unset, .unset, .unset] [(.int (31 : Int32))])) _
      refine XS.goto X0.here hx rfl (pc0 := 15) (pc' := 20) rfl (hb hby at_15) (by decide) (by decide) ?_
      show Steps p.tables e below (s₁.setTop (mkF m 20 #[.val (.int p1), .val (.int p2), .val (.int p3), .val (.int p4), .val (.int (p1 &&& (3 : Int32))), .unset, .unset, .unset, .unset, .unset] [(.int (31 : Int32))])) _
      refine XS.istore X0.here hx rfl (hb hby at_20) rfl (l' := #[.val (.int p1), .val (.int p2), .val (.int p3), .val (.int p4), .val (.int (p1 &&& (3 : Int32))), .val (.int (31 : Int32)), .unset, .unset, .unset, .unset]) rfl ?_
      exact kt
  obtain ⟨b1, hb1, st_6p⟩ : ∃ (b1 : Int32), (b1.toInt8.toInt32 = b1) ∧ ∀ target, Steps p.tables e below (s₁.setTop (mkF m 43 #[.val (.int p1), .val (.int p2), .val (.int p3), .val (.int p4), .val (.int n), .val (.int b0), .val (.int b1), .val (.int (p4.toInt8.toInt32)), .unset, .unset] [])) target → Steps p.tables e below (s₁.setTop (mkF m 22 #[.val (.int p1), .val (.int p2), .val (.int p3), .val (.int p4), .val (.int n), .val (.int b0), .unset, .unset, .unset, .unset] [])) target := by
    by_cases hc27 : (p3 &&& (256 : Int32)) = (0 : Int32)
    · refine ⟨(p3.toInt8.toInt32), own_by _, fun target kt => ?_⟩
      show Steps p.tables e below (s₁.setTop (mkF m 22 #[.val (.int p1), .val (.int p2), .val (.int p3), .val (.int p4), .val (.int n), .val (.int b0), .unset, .unset, .unset, .unset] [])) _
      refine XS.iloadN X0.here hx rfl (hb hby at_22) rfl ?_
      show Steps p.tables e below (s₁.setTop (mkF m 23 #[.val (.int p1), .val (.int p2), .val (.int p3), .val (.int p4), .val (.int n), .val (.int b0), .unset, .unset, .unset, .unset] [(.int p3)])) _
      refine XS.sipush X0.here hx rfl (hb hby at_23) ?_
      show Steps p.tables e below (s₁.setTop (mkF m 26 #[.val (.int p1), .val (.int p2), .val (.int p3), .val (.int p4), .val (.int n), .val (.int b0), .unset, .unset, .unset, .unset] [(.int (256 : Int32)), (.int p3)])) _
      refine XS.iand X0.here hx rfl (hb hby at_26) rfl ?_
      show Steps p.tables e below (s₁.setTop (mkF m 27 #[.val (.int p1), .val (.int p2), .val (.int p3), .val (.int p4), .val (.int n), .val (.int b0), .unset, .unset, .unset, .unset] [(.int (p3 &&& (256 : Int32)))])) _
      refine XS.ifYes X0.here hx rfl (pc0 := 27) (pc' := 35) rfl (hb hby at_27) rfl ((if0 _ _).trans (teq hc27).1) (by decide) (by decide) ?_
      show Steps p.tables e below (s₁.setTop (mkF m 35 #[.val (.int p1), .val (.int p2), .val (.int p3), .val (.int p4), .val (.int n), .val (.int b0), .unset, .unset, .unset, .unset] [])) _
      refine XS.iloadN X0.here hx rfl (hb hby at_35) rfl ?_
      show Steps p.tables e below (s₁.setTop (mkF m 36 #[.val (.int p1), .val (.int p2), .val (.int p3), .val (.int p4), .val (.int n), .val (.int b0), .unset, .unset, .unset, .unset] [(.int p3)])) _
      refine XS.i2b X0.here hx rfl (hb hby at_36) rfl ?_
      show Steps p.tables e below (s₁.setTop (mkF m 37 #[.val (.int p1), .val (.int p2), .val (.int p3), .val (.int p4), .val (.int n), .val (.int b0), .unset, .unset, .unset, .unset] [(.int (p3.toInt8.toInt32))])) _
      refine XS.istore X0.here hx rfl (hb hby at_37) rfl (l' := #[.val (.int p1), .val (.int p2), .val (.int p3), .val (.int p4), .val (.int n), .val (.int b0), .val (.int (p3.toInt8.toInt32)), .unset, .unset, .unset]) rfl ?_
      show Steps p.tables e below (s₁.setTop (mkF m 39 #[.val (.int p1), .val (.int p2), .val (.int p3), .val (.int p4), .val (.int n), .val (.int b0), .val (.int (p3.toInt8.toInt32)), .unset, .unset, .unset] [])) _
      refine XS.iloadN X0.here hx rfl (hb hby at_39) rfl ?_
      show Steps p.tables e below (s₁.setTop (mkF m 40 #[.val (.int p1), .val (.int p2), .val (.int p3), .val (.int p4), .val (.int n), .val (.int b0), .val (.int (p3.toInt8.toInt32)), .unset, .unset, .unset] [(.int p4)])) _
      refine XS.i2b X0.here hx rfl (hb hby at_40) rfl ?_
      show Steps p.tables e below (s₁.setTop (mkF m 41 #[.val (.int p1), .val (.int p2), .val (.int p3), .val (.int p4), .val (.int n), .val (.int b0), .val (.int (p3.toInt8.toInt32)), .unset, .unset, .unset] [(.int (p4.toInt8.toInt32))])) _
      refine XS.istore X0.here hx rfl (hb hby at_41) rfl (l' := #[.val (.int p1), .val (.int p2), .val (.int p3), .val (.int p4), .val (.int n), .val (.int b0), .val (.int (p3.toInt8.toInt32)), .val (.int (p4.toInt8.toInt32)), .unset, .unset]) rfl ?_
      exact kt
    · refine ⟨(-117 : Int32), by decide, fun target kt => ?_⟩
      show Steps p.tables e below (s₁.setTop (mkF m 22 #[.val (.int p1), .val (.int p2), .val (.int p3), .val (.int p4), .val (.int n), .val (.int b0), .unset, .unset, .unset, .unset] [])) _
      refine XS.iloadN X0.here hx rfl (hb hby at_22) rfl ?_
      show Steps p.tables e below (s₁.setTop (mkF m 23 #[.val (.int p1), .val (.int p2), .val (.int p3), .val (.int p4), .val (.int n), .val (.int b0), .unset, .unset, .unset, .unset] [(.int p3)])) _
      refine XS.sipush X0.here hx rfl (hb hby at_23) ?_
      show Steps p.tables e below (s₁.setTop (mkF m 26 #[.val (.int p1), .val (.int p2), .val (.int p3), .val (.int p4), .val (.int n), .val (.int b0), .unset, .unset, .unset, .unset] [(.int (256 : Int32)), (.int p3)])) _
      refine XS.iand X0.here hx rfl (hb hby at_26) rfl ?_
      show Steps p.tables e below (s₁.setTop (mkF m 27 #[.val (.int p1), .val (.int p2), .val (.int p3), .val (.int p4), .val (.int n), .val (.int b0), .unset, .unset, .unset, .unset] [(.int (p3 &&& (256 : Int32)))])) _
      refine XS.ifNo X0.here hx rfl (hb hby at_27) rfl ((if0 _ _).trans (feq hc27).1) ?_
      show Steps p.tables e below (s₁.setTop (mkF m 30 #[.val (.int p1), .val (.int p2), .val (.int p3), .val (.int p4), .val (.int n), .val (.int b0), .unset, .unset, .unset, .unset] [])) _
      refine XS.bipush X0.here hx rfl (hb hby at_30) ?_
      show Steps p.tables e below (s₁.setTop (mkF m 32 #[.val (.int p1), .val (.int p2), .val (.int p3), .val (.int p4), .val (.int n), .val (.int b0), .unset, .unset, .unset, .unset] [(.int (-117 : Int32))])) _
      refine XS.goto X0.here hx rfl (pc0 := 32) (pc' := 37) rfl (hb hby at_32) (by decide) (by decide) ?_
      show Steps p.tables e below (s₁.setTop (mkF m 37 #[.val (.int p1), .val (.int p2), .val (.int p3), .val (.int p4), .val (.int n), .val (.int b0), .unset, .unset, .unset, .unset] [(.int (-117 : Int32))])) _
      refine XS.istore X0.here hx rfl (hb hby at_37) rfl (l' := #[.val (.int p1), .val (.int p2), .val (.int p3), .val (.int p4), .val (.int n), .val (.int b0), .val (.int (-117 : Int32)), .unset, .unset, .unset]) rfl ?_
      show Steps p.tables e below (s₁.setTop (mkF m 39 #[.val (.int p1), .val (.int p2), .val (.int p3), .val (.int p4), .val (.int n), .val (.int b0), .val (.int (-117 : Int32)), .unset, .unset, .unset] [])) _
      refine XS.iloadN X0.here hx rfl (hb hby at_39) rfl ?_
      show Steps p.tables e below (s₁.setTop (mkF m 40 #[.val (.int p1), .val (.int p2), .val (.int p3), .val (.int p4), .val (.int n), .val (.int b0), .val (.int (-117 : Int32)), .unset, .unset, .unset] [(.int p4)])) _
      refine XS.i2b X0.here hx rfl (hb hby at_40) rfl ?_
      show Steps p.tables e below (s₁.setTop (mkF m 41 #[.val (.int p1), .val (.int p2), .val (.int p3), .val (.int p4), .val (.int n), .val (.int b0), .val (.int (-117 : Int32)), .unset, .unset, .unset] [(.int (p4.toInt8.toInt32))])) _
      refine XS.istore X0.here hx rfl (hb hby at_41) rfl (l' := #[.val (.int p1), .val (.int p2), .val (.int p3), .val (.int p4), .val (.int n), .val (.int b0), .val (.int (-117 : Int32)), .val (.int (p4.toInt8.toInt32)), .unset, .unset]) rfl ?_
      exact kt
  obtain ⟨b2, hb2⟩ : ∃ b2 : Int32, b2 = p4.toInt8.toInt32 := ⟨_, rfl⟩
  rw [← hb2] at st_6p
  have hb2' : b2.toInt8.toInt32 = b2 := by rw [hb2]; exact own_by _
  obtain ⟨hn, hb0⟩ := hA
  rcases hn with rfl | rfl | rfl | rfl
  · have hc51_7 : ¬ ((0 : Int32) < (0 : Int32)) := (by decide)
    have hc63_7 : ¬ ((1 : Int32) < (0 : Int32)) := (by decide)
    have hc75_7 : ¬ ((2 : Int32) < (0 : Int32)) := (by decide)
    obtain ⟨T5_7, h5_7, k5_7, X5_7, e5_7, E5_7, A5_7, st5_7⟩ := newP X0 hx hZ (hw _ (List.mem_of_getElem? (i := 0) rfl)) e0 (g := (mkF m 45 #[.val (.int p1), .val (.int p2), .val (.int p3), .val (.int p4), .val (.int (0 : Int32)), .val (.int b0), .val (.int b1), .val (.int b2), .unset, .unset] [(.int (0 : Int32))])) rfl (hb hby at_45) rfl (by decide) (cap := 0) (by decide) (by decide) (by decide) (by decide)
    obtain ⟨b5_7, g5_7⟩ : ∃ z, z = h0.size := ⟨_, rfl⟩
    rw [← g5_7] at A5_7 st5_7
    have V_b5_7 : Arv Z h5_7 b5_7 k5_7 .byte (0 : Int32) [] (.int 0) := (Arv.new A5_7 (by decide)).pad (pad_rep [] (.int 0) 0)
    have g_b5_7 : n0 ≤ b5_7 := Nat.le_trans Z0 (Nat.le_of_eq g5_7.symm)
    have sz_b5_7 : h0.size ≤ b5_7 := (Nat.le_trans (Keep.refl h0 []).1 (Nat.le_of_eq g5_7.symm))
    have K5_7 : Keep h0 h5_7 [] := (Keep.refl h0 []).ext E5_7
    have st_7p : ∀ target, Steps p.tables e below (T5_7.setTop (mkF m 84 #[.val (.int p1), .val (.int p2), .val (.int p3), .val (.int p4), .val (.int (0 : Int32)), .val (.int b0), .val (.int b1), .val (.int b2), .val (.ref b5_7), .unset] [])) target → Steps p.tables e below (s₁.setTop (mkF m 43 #[.val (.int p1), .val (.int p2), .val (.int p3), .val (.int p4), .val (.int (0 : Int32)), .val (.int b0), .val (.int b1), .val (.int b2), .unset, .unset] [])) target := by
      intro target kt
      show Steps p.tables e below (s₁.setTop (mkF m 43 #[.val (.int p1), .val (.int p2), .val (.int p3), .val (.int p4), .val (.int (0 : Int32)), .val (.int b0), .val (.int b1), .val (.int b2), .unset, .unset] [])) _
      refine XS.iload X0.here hx rfl (hb hby at_43) rfl ?_
      show Steps p.tables e below (s₁.setTop (mkF m 45 #[.val (.int p1), .val (.int p2), .val (.int p3), .val (.int p4), .val (.int (0 : Int32)), .val (.int b0), .val (.int b1), .val (.int b2), .unset, .unset] [(.int (0 : Int32))])) _
      refine st5_7 _ ?_
      show Steps p.tables e below (T5_7.setTop (mkF m 47 #[.val (.int p1), .val (.int p2), .val (.int p3), .val (.int p4), .val (.int (0 : Int32)), .val (.int b0), .val (.int b1), .val (.int b2), .unset, .unset] [(.ref b5_7)])) _
      refine XS.astore X5_7.here hx rfl (hb hby at_47) rfl rfl (l' := #[.val (.int p1), .val (.int p2), .val (.int p3), .val (.int p4), .val (.int (0 : Int32)), .val (.int b0), .val (.int b1), .val (.int b2), .val (.ref b5_7), .unset]) rfl ?_
      show Steps p.tables e below (T5_7.setTop (mkF m 49 #[.val (.int p1), .val (.int p2), .val (.int p3), .val (.int p4), .val (.int (0 : Int32)), .val (.int b0), .val (.int b1), .val (.int b2), .val (.ref b5_7), .unset] [])) _
      refine XS.iload X5_7.here hx rfl (hb hby at_49) rfl ?_
      show Steps p.tables e below (T5_7.setTop (mkF m 51 #[.val (.int p1), .val (.int p2), .val (.int p3), .val (.int p4), .val (.int (0 : Int32)), .val (.int b0), .val (.int b1), .val (.int b2), .val (.ref b5_7), .unset] [(.int (0 : Int32))])) _
      refine XS.ifYes X5_7.here hx rfl (pc0 := 51) (pc' := 60) rfl (hb hby at_51) rfl ((if0 _ _).trans (flt hc51_7).2.2.2) (by decide) (by decide) ?_
      show Steps p.tables e below (T5_7.setTop (mkF m 60 #[.val (.int p1), .val (.int p2), .val (.int p3), .val (.int p4), .val (.int (0 : Int32)), .val (.int b0), .val (.int b1), .val (.int b2), .val (.ref b5_7), .unset] [])) _
      refine XS.iload X5_7.here hx rfl (hb hby at_60) rfl ?_
      show Steps p.tables e below (T5_7.setTop (mkF m 62 #[.val (.int p1), .val (.int p2), .val (.int p3), .val (.int p4), .val (.int (0 : Int32)), .val (.int b0), .val (.int b1), .val (.int b2), .val (.ref b5_7), .unset] [(.int (0 : Int32))])) _
      refine XS.iconst X5_7.here hx rfl (hb hby at_62) ?_
      show Steps p.tables e below (T5_7.setTop (mkF m 63 #[.val (.int p1), .val (.int p2), .val (.int p3), .val (.int p4), .val (.int (0 : Int32)), .val (.int b0), .val (.int b1), .val (.int b2), .val (.ref b5_7), .unset] [(.int (1 : Int32)), (.int (0 : Int32))])) _
      refine XS.icmpYes X5_7.here hx rfl (pc0 := 63) (pc' := 72) rfl (hb hby at_63) rfl (flt hc63_7).2.2.2 (by decide) (by decide) ?_
      show Steps p.tables e below (T5_7.setTop (mkF m 72 #[.val (.int p1), .val (.int p2), .val (.int p3), .val (.int p4), .val (.int (0 : Int32)), .val (.int b0), .val (.int b1), .val (.int b2), .val (.ref b5_7), .unset] [])) _
      refine XS.iload X5_7.here hx rfl (hb hby at_72) rfl ?_
      show Steps p.tables e below (T5_7.setTop (mkF m 74 #[.val (.int p1), .val (.int p2), .val (.int p3), .val (.int p4), .val (.int (0 : Int32)), .val (.int b0), .val (.int b1), .val (.int b2), .val (.ref b5_7), .unset] [(.int (0 : Int32))])) _
      refine XS.iconst X5_7.here hx rfl (hb hby at_74) ?_
      show Steps p.tables e below (T5_7.setTop (mkF m 75 #[.val (.int p1), .val (.int p2), .val (.int p3), .val (.int p4), .val (.int (0 : Int32)), .val (.int b0), .val (.int b1), .val (.int b2), .val (.ref b5_7), .unset] [(.int (2 : Int32)), (.int (0 : Int32))])) _
      refine XS.icmpYes X5_7.here hx rfl (pc0 := 75) (pc' := 84) rfl (hb hby at_75) rfl (flt hc75_7).2.2.2 (by decide) (by decide) ?_
      exact kt
    have V2 : Arv Z h5_7 b5_7 k5_7 .byte (0 : Int32) [] (.int 0) := by
      have q := V_b5_7
      exact q
    have Zc : n0 ≤ h5_7.size := Nat.le_trans Z0 E5_7.1
    obtain ⟨ex, hex, st_9p⟩ : ∃ (ex : Int32), (ex = own_exp (0 : Int32) b0 b1) ∧ ∀ target, Steps p.tables e below (T5_7.setTop (mkF m 111 #[.val (.int p1), .val (.int p2), .val (.int p3), .val (.int p4), .val (.int (0 : Int32)), .val (.int b0), .val (.int b1), .val (.int b2), .val (.ref b5_7), .val (.int ex)] [])) target → Steps p.tables e below (T5_7.setTop (mkF m 84 #[.val (.int p1), .val (.int p2), .val (.int p3), .val (.int p4), .val (.int (0 : Int32)), .val (.int b0), .val (.int b1), .val (.int b2), .val (.ref b5_7), .unset] [])) target := by
      by_cases hc87 : (0 : Int32) < (2 : Int32)
      · refine ⟨(0 : Int32), by simp [own_exp], fun target kt => ?_⟩
        show Steps p.tables e below (T5_7.setTop (mkF m 84 #[.val (.int p1), .val (.int p2), .val (.int p3), .val (.int p4), .val (.int (0 : Int32)), .val (.int b0), .val (.int b1), .val (.int b2), .val (.ref b5_7), .unset] [])) _
        refine XS.iload X5_7.here hx rfl (hb hby at_84) rfl ?_
        show Steps p.tables e below (T5_7.setTop (mkF m 86 #[.val (.int p1), .val (.int p2), .val (.int p3), .val (.int p4), .val (.int (0 : Int32)), .val (.int b0), .val (.int b1), .val (.int b2), .val (.ref b5_7), .unset] [(.int (0 : Int32))])) _
        refine XS.iconst X5_7.here hx rfl (hb hby at_86) ?_
        show Steps p.tables e below (T5_7.setTop (mkF m 87 #[.val (.int p1), .val (.int p2), .val (.int p3), .val (.int p4), .val (.int (0 : Int32)), .val (.int b0), .val (.int b1), .val (.int b2), .val (.ref b5_7), .unset] [(.int (2 : Int32)), (.int (0 : Int32))])) _
        refine XS.icmpYes X5_7.here hx rfl (pc0 := 87) (pc' := 108) rfl (hb hby at_87) rfl (tlt hc87).1 (by decide) (by decide) ?_
        show Steps p.tables e below (T5_7.setTop (mkF m 108 #[.val (.int p1), .val (.int p2), .val (.int p3), .val (.int p4), .val (.int (0 : Int32)), .val (.int b0), .val (.int b1), .val (.int b2), .val (.ref b5_7), .unset] [])) _
        refine XS.iconst X5_7.here hx rfl (hb hby at_108) ?_
        show Steps p.tables e below (T5_7.setTop (mkF m 109 #[.val (.int p1), .val (.int p2), .val (.int p3), .val (.int p4), .val (.int (0 : Int32)), .val (.int b0), .val (.int b1), .val (.int b2), .val (.ref b5_7), .unset] [(.int (0 : Int32))])) _
        refine XS.istore X5_7.here hx rfl (hb hby at_109) rfl (l' := #[.val (.int p1), .val (.int p2), .val (.int p3), .val (.int p4), .val (.int (0 : Int32)), .val (.int b0), .val (.int b1), .val (.int b2), .val (.ref b5_7), .val (.int (0 : Int32))]) rfl ?_
        exact kt
      · exact absurd (by decide) hc87
    have hgot : own_begins (0 : Int32) b0 b1 = ex := by rw [hex]; exact own_same _ _ _ hb0 hb1
    obtain ⟨_, _, ⟨T5_10, L5_10, k5_10, n5_10⟩, -, X5_10, ⟨Lc5_10, hQ5_10, l5_10, y5_10, z5_10⟩, st5_10⟩ := Jvm.LawKit.callS X5_7 hx (y := (⟨"com/example/libtrawl/libtrawl/GzipSource", "begins", "([B)Z"⟩ : MethodName)) hown (mvT hZ (hw _ (List.mem_of_getElem? (i := 1) rfl))) (mvT hZ (hw _ (List.mem_of_getElem? (i := 2) rfl))) (mvT hZ (hw _ (List.mem_of_getElem? (i := 3) rfl))) (mvT hZ (hw _ (List.mem_of_getElem? (i := 4) rfl))) (by decide) (backOf (W := 0) (rm1 l Z a0 hw [] b5_7 (0 : Int32) b0 b1 _ _ h5_7 n0 Zc V2 (fun q => absurd (by decide) q) (fun q => absurd (by decide) q)) hZ (hw _ (List.mem_of_getElem? (i := 4) rfl)) (hw _ (List.mem_of_getElem? (i := 3) rfl)) (by decide) (by decide)) (g := (mkF m 113 #[.val (.int p1), .val (.int p2), .val (.int p3), .val (.int p4), .val (.int (0 : Int32)), .val (.int b0), .val (.int b1), .val (.int b2), .val (.ref b5_7), .val (.int ex)] [(.ref b5_7)])) rfl (by rw [hml]; rfl) (argsL := [(.ref b5_7)]) (rest := []) (lenOf pd_0 rfl) rfl (by show 2 * 0 + _ ≤ _; exact Nat.le_of_eq rfl) (hb hby at_113) (fun _ _ => ⟨rfl, e5_7, (by decide : 0 + 1 + 0 ≤ _), (by decide : 0 + 0 + 0 ≤ _)⟩)
    dsimp only [Pt.U, Pt.locs, Pt.cells, Pt.slots] at X5_10 l5_10 y5_10 z5_10 st5_10 hQ5_10
    subst l5_10 y5_10 z5_10
    obtain ⟨rfl, N5q_10, gq_10⟩ := hQ5_10
    have N5_10 := Fr.app N0 N5q_10
    have st_10p : ∀ target, Steps p.tables e below (T5_10.setTop (mkF m 126 #[.val (.int p1), .val (.int p2), .val (.int p3), .val (.int p4), .val (.int (0 : Int32)), .val (.int b0), .val (.int b1), .val (.int b2), .val (.ref b5_7), .val (.int ex)] [(.int (1 : Int32))])) target → Steps p.tables e below (T5_7.setTop (mkF m 111 #[.val (.int p1), .val (.int p2), .val (.int p3), .val (.int p4), .val (.int (0 : Int32)), .val (.int b0), .val (.int b1), .val (.int b2), .val (.ref b5_7), .val (.int ex)] [])) target := by
      intro target kt
      show Steps p.tables e below (T5_7.setTop (mkF m 111 #[.val (.int p1), .val (.int p2), .val (.int p3), .val (.int p4), .val (.int (0 : Int32)), .val (.int b0), .val (.int b1), .val (.int b2), .val (.ref b5_7), .val (.int ex)] [])) _
      refine XS.aload X5_7.here hx rfl (hb hby at_111) rfl rfl ?_
      show Steps p.tables e below (T5_7.setTop (mkF m 113 #[.val (.int p1), .val (.int p2), .val (.int p3), .val (.int p4), .val (.int (0 : Int32)), .val (.int b0), .val (.int b1), .val (.int b2), .val (.ref b5_7), .val (.int ex)] [(.ref b5_7)])) _
      refine st5_10 _ ?_
      show Steps p.tables e below (T5_10.setTop (mkF m 116 #[.val (.int p1), .val (.int p2), .val (.int p3), .val (.int p4), .val (.int (0 : Int32)), .val (.int b0), .val (.int b1), .val (.int b2), .val (.ref b5_7), .val (.int ex)] [(.int (own_begins (0 : Int32) b0 b1))])) _
      refine XS.iload X5_10.here hx rfl (hb hby at_116) rfl ?_
      show Steps p.tables e below (T5_10.setTop (mkF m 118 #[.val (.int p1), .val (.int p2), .val (.int p3), .val (.int p4), .val (.int (0 : Int32)), .val (.int b0), .val (.int b1), .val (.int b2), .val (.ref b5_7), .val (.int ex)] [(.int ex), (.int (own_begins (0 : Int32) b0 b1))])) _
      refine XS.icmpNo X5_10.here hx rfl (hb hby at_118) rfl (teq (hgot : (own_begins (0 : Int32) b0 b1) = ex)).2 ?_
      show Steps p.tables e below (T5_10.setTop (mkF m 121 #[.val (.int p1), .val (.int p2), .val (.int p3), .val (.int p4), .val (.int (0 : Int32)), .val (.int b0), .val (.int b1), .val (.int b2), .val (.ref b5_7), .val (.int ex)] [])) _
      refine XS.iconst X5_10.here hx rfl (hb hby at_121) ?_
      show Steps p.tables e below (T5_10.setTop (mkF m 122 #[.val (.int p1), .val (.int p2), .val (.int p3), .val (.int p4), .val (.int (0 : Int32)), .val (.int b0), .val (.int b1), .val (.int b2), .val (.ref b5_7), .val (.int ex)] [(.int (1 : Int32))])) _
      refine XS.goto X5_10.here hx rfl (pc0 := 122) (pc' := 126) rfl (hb hby at_122) (by decide) (by decide) ?_
      exact kt
    obtain ⟨fs, hr, hrun, hended, hW, hsame⟩ := X5_10.leave (v := some (.int (1 : Int32))) (fun h => by rw [Bd.returns] at h; cases h)
    refine ⟨_, _, pre0 _ ?_, hrun, hended, _, _, rfl, ?_, ⟨_, rfl⟩, hW, hsame.mono (by decide) (by decide)⟩
    · show Steps p.tables e below (s₁.setTop (mkF m 0 #[.val (.int p1), .val (.int p2), .val (.int p3), .val (.int p4), .unset, .unset, .unset, .unset, .unset, .unset] [])) _
      refine st_3p _ ?_
      refine st_6p _ ?_
      refine st_7p _ ?_
      refine st_9p _ ?_
      refine st_10p _ ?_
      exact retN X5_10 hx (t := .boolean) Bd.returns (by simp) (hb hby at_126) hr
    · show Q0 Z p1 p2 p3 p4 h0 n0 _ T5_10.heap _
      exact ⟨rfl, N5_10⟩
  · have hc51_11 : (0 : Int32) < (1 : Int32) := (by decide)
    have hc63_11 : ¬ ((1 : Int32) < (1 : Int32)) := (by decide)
    have hc75_11 : ¬ ((2 : Int32) < (1 : Int32)) := (by decide)
    obtain ⟨T5_11, h5_11, k5_11, X5_11, e5_11, E5_11, A5_11, st5_11⟩ := newP X0 hx hZ (hw _ (List.mem_of_getElem? (i := 0) rfl)) e0 (g := (mkF m 45 #[.val (.int p1), .val (.int p2), .val (.int p3), .val (.int p4), .val (.int (1 : Int32)), .val (.int b0), .val (.int b1), .val (.int b2), .unset, .unset] [(.int (1 : Int32))])) rfl (hb hby at_45) rfl (by decide) (cap := 1) (by decide) (by decide) (by decide) (by decide)
    obtain ⟨b5_11, g5_11⟩ : ∃ z, z = h0.size := ⟨_, rfl⟩
    rw [← g5_11] at A5_11 st5_11
    have V_b5_11 : Arv Z h5_11 b5_11 k5_11 .byte (1 : Int32) [.int 0] (.int 0) := (Arv.new A5_11 (by decide)).pad (pad_rep [] (.int 0) 1)
    have g_b5_11 : n0 ≤ b5_11 := Nat.le_trans Z0 (Nat.le_of_eq g5_11.symm)
    have sz_b5_11 : h0.size ≤ b5_11 := (Nat.le_trans (Keep.refl h0 []).1 (Nat.le_of_eq g5_11.symm))
    have K5_11 : Keep h0 h5_11 [] := (Keep.refl h0 []).ext E5_11
    obtain ⟨cl_b5_59_11, Ar_b5_11, q_b5_11, S_b5_11, N_b5_11, H_b5_11, G_b5_11⟩ := V_b5_11
    have hin59_11 : ¬ ((0 : Int32) < 0 ∨ cl_b5_59_11.slots.size ≤ ((0 : Int32)).toNatClampNeg) := inb_of S_b5_11 ⟨by decide, by decide⟩
    obtain ⟨T6_11, h6_11, X6_11, e6_11, W6_11, st6_11⟩ := stB X5_11 hx hZ e5_11 Ar_b5_11 (j := (0 : Int32)) hin59_11 (g := (mkF m 59 #[.val (.int p1), .val (.int p2), .val (.int p3), .val (.int p4), .val (.int (1 : Int32)), .val (.int b0), .val (.int b1), .val (.int b2), .val (.ref b5_11), .unset] [(.int b0), (.int (0 : Int32)), (.ref b5_11)])) rfl rfl (hb hby at_59)
    have V_b5_6_11 := Arv.set Ar_b5_11 q_b5_11 S_b5_11 N_b5_11 H_b5_11 G_b5_11 (fits_nar_byte _) W6_11 0 rfl (Nat.le_of_ble_eq_true rfl)
    have K6_11 : Keep h0 h6_11 [] := K5_11.wr W6_11 (Or.inr sz_b5_11)
    have N6_11 := Fr.snoc X6_11 N0 g_b5_11
    have st_11p : ∀ target, Steps p.tables e below (T6_11.setTop (mkF m 84 #[.val (.int p1), .val (.int p2), .val (.int p3), .val (.int p4), .val (.int (1 : Int32)), .val (.int b0), .val (.int b1), .val (.int b2), .val (.ref b5_11), .unset] [])) target → Steps p.tables e below (s₁.setTop (mkF m 43 #[.val (.int p1), .val (.int p2), .val (.int p3), .val (.int p4), .val (.int (1 : Int32)), .val (.int b0), .val (.int b1), .val (.int b2), .unset, .unset] [])) target := by
      intro target kt
      show Steps p.tables e below (s₁.setTop (mkF m 43 #[.val (.int p1), .val (.int p2), .val (.int p3), .val (.int p4), .val (.int (1 : Int32)), .val (.int b0), .val (.int b1), .val (.int b2), .unset, .unset] [])) _
      refine XS.iload X0.here hx rfl (hb hby at_43) rfl ?_
      show Steps p.tables e below (s₁.setTop (mkF m 45 #[.val (.int p1), .val (.int p2), .val (.int p3), .val (.int p4), .val (.int (1 : Int32)), .val (.int b0), .val (.int b1), .val (.int b2), .unset, .unset] [(.int (1 : Int32))])) _
      refine st5_11 _ ?_
      show Steps p.tables e below (T5_11.setTop (mkF m 47 #[.val (.int p1), .val (.int p2), .val (.int p3), .val (.int p4), .val (.int (1 : Int32)), .val (.int b0), .val (.int b1), .val (.int b2), .unset, .unset] [(.ref b5_11)])) _
      refine XS.astore X5_11.here hx rfl (hb hby at_47) rfl rfl (l' := #[.val (.int p1), .val (.int p2), .val (.int p3), .val (.int p4), .val (.int (1 : Int32)), .val (.int b0), .val (.int b1), .val (.int b2), .val (.ref b5_11), .unset]) rfl ?_
      show Steps p.tables e below (T5_11.setTop (mkF m 49 #[.val (.int p1), .val (.int p2), .val (.int p3), .val (.int p4), .val (.int (1 : Int32)), .val (.int b0), .val (.int b1), .val (.int b2), .val (.ref b5_11), .unset] [])) _
      refine XS.iload X5_11.here hx rfl (hb hby at_49) rfl ?_
      show Steps p.tables e below (T5_11.setTop (mkF m 51 #[.val (.int p1), .val (.int p2), .val (.int p3), .val (.int p4), .val (.int (1 : Int32)), .val (.int b0), .val (.int b1), .val (.int b2), .val (.ref b5_11), .unset] [(.int (1 : Int32))])) _
      refine XS.ifNo X5_11.here hx rfl (hb hby at_51) rfl ((if0 _ _).trans (tlt hc51_11).2.2.2) ?_
      show Steps p.tables e below (T5_11.setTop (mkF m 54 #[.val (.int p1), .val (.int p2), .val (.int p3), .val (.int p4), .val (.int (1 : Int32)), .val (.int b0), .val (.int b1), .val (.int b2), .val (.ref b5_11), .unset] [])) _
      refine XS.aload X5_11.here hx rfl (hb hby at_54) rfl rfl ?_
      show Steps p.tables e below (T5_11.setTop (mkF m 56 #[.val (.int p1), .val (.int p2), .val (.int p3), .val (.int p4), .val (.int (1 : Int32)), .val (.int b0), .val (.int b1), .val (.int b2), .val (.ref b5_11), .unset] [(.ref b5_11)])) _
      refine XS.iconst X5_11.here hx rfl (hb hby at_56) ?_
      show Steps p.tables e below (T5_11.setTop (mkF m 57 #[.val (.int p1), .val (.int p2), .val (.int p3), .val (.int p4), .val (.int (1 : Int32)), .val (.int b0), .val (.int b1), .val (.int b2), .val (.ref b5_11), .unset] [(.int (0 : Int32)), (.ref b5_11)])) _
      refine XS.iload X5_11.here hx rfl (hb hby at_57) rfl ?_
      show Steps p.tables e below (T5_11.setTop (mkF m 59 #[.val (.int p1), .val (.int p2), .val (.int p3), .val (.int p4), .val (.int (1 : Int32)), .val (.int b0), .val (.int b1), .val (.int b2), .val (.ref b5_11), .unset] [(.int b0), (.int (0 : Int32)), (.ref b5_11)])) _
      refine st6_11 _ ?_
      show Steps p.tables e below (T6_11.setTop (mkF m 60 #[.val (.int p1), .val (.int p2), .val (.int p3), .val (.int p4), .val (.int (1 : Int32)), .val (.int b0), .val (.int b1), .val (.int b2), .val (.ref b5_11), .unset] [])) _
      refine XS.iload X6_11.here hx rfl (hb hby at_60) rfl ?_
      show Steps p.tables e below (T6_11.setTop (mkF m 62 #[.val (.int p1), .val (.int p2), .val (.int p3), .val (.int p4), .val (.int (1 : Int32)), .val (.int b0), .val (.int b1), .val (.int b2), .val (.ref b5_11), .unset] [(.int (1 : Int32))])) _
      refine XS.iconst X6_11.here hx rfl (hb hby at_62) ?_
      show Steps p.tables e below (T6_11.setTop (mkF m 63 #[.val (.int p1), .val (.int p2), .val (.int p3), .val (.int p4), .val (.int (1 : Int32)), .val (.int b0), .val (.int b1), .val (.int b2), .val (.ref b5_11), .unset] [(.int (1 : Int32)), (.int (1 : Int32))])) _
      refine XS.icmpYes X6_11.here hx rfl (pc0 := 63) (pc' := 72) rfl (hb hby at_63) rfl (flt hc63_11).2.2.2 (by decide) (by decide) ?_
      show Steps p.tables e below (T6_11.setTop (mkF m 72 #[.val (.int p1), .val (.int p2), .val (.int p3), .val (.int p4), .val (.int (1 : Int32)), .val (.int b0), .val (.int b1), .val (.int b2), .val (.ref b5_11), .unset] [])) _
      refine XS.iload X6_11.here hx rfl (hb hby at_72) rfl ?_
      show Steps p.tables e below (T6_11.setTop (mkF m 74 #[.val (.int p1), .val (.int p2), .val (.int p3), .val (.int p4), .val (.int (1 : Int32)), .val (.int b0), .val (.int b1), .val (.int b2), .val (.ref b5_11), .unset] [(.int (1 : Int32))])) _
      refine XS.iconst X6_11.here hx rfl (hb hby at_74) ?_
      show Steps p.tables e below (T6_11.setTop (mkF m 75 #[.val (.int p1), .val (.int p2), .val (.int p3), .val (.int p4), .val (.int (1 : Int32)), .val (.int b0), .val (.int b1), .val (.int b2), .val (.ref b5_11), .unset] [(.int (2 : Int32)), (.int (1 : Int32))])) _
      refine XS.icmpYes X6_11.here hx rfl (pc0 := 75) (pc' := 84) rfl (hb hby at_75) rfl (flt hc75_11).2.2.2 (by decide) (by decide) ?_
      exact kt
    have V2 : Arv Z h6_11 b5_11 k5_11 .byte (1 : Int32) [.int b0] (.int 0) := by
      have q := V_b5_6_11
      simp only [List.set_cons_zero, List.set_cons_succ, hb0, hb1, hb2'] at q
      exact q
    have Zc : n0 ≤ h6_11.size := Nat.le_trans Z0 K6_11.1
    obtain ⟨ex, hex, st_13p⟩ : ∃ (ex : Int32), (ex = own_exp (1 : Int32) b0 b1) ∧ ∀ target, Steps p.tables e below (T6_11.setTop (mkF m 111 #[.val (.int p1), .val (.int p2), .val (.int p3), .val (.int p4), .val (.int (1 : Int32)), .val (.int b0), .val (.int b1), .val (.int b2), .val (.ref b5_11), .val (.int ex)] [])) target → Steps p.tables e below (T6_11.setTop (mkF m 84 #[.val (.int p1), .val (.int p2), .val (.int p3), .val (.int p4), .val (.int (1 : Int32)), .val (.int b0), .val (.int b1), .val (.int b2), .val (.ref b5_11), .unset] [])) target := by
      by_cases hc87 : (1 : Int32) < (2 : Int32)
      · refine ⟨(0 : Int32), by simp [own_exp], fun target kt => ?_⟩
        show Steps p.tables e below (T6_11.setTop (mkF m 84 #[.val (.int p1), .val (.int p2), .val (.int p3), .val (.int p4), .val (.int (1 : Int32)), .val (.int b0), .val (.int b1), .val (.int b2), .val (.ref b5_11), .unset] [])) _
        refine XS.iload X6_11.here hx rfl (hb hby at_84) rfl ?_
        show Steps p.tables e below (T6_11.setTop (mkF m 86 #[.val (.int p1), .val (.int p2), .val (.int p3), .val (.int p4), .val (.int (1 : Int32)), .val (.int b0), .val (.int b1), .val (.int b2), .val (.ref b5_11), .unset] [(.int (1 : Int32))])) _
        refine XS.iconst X6_11.here hx rfl (hb hby at_86) ?_
        show Steps p.tables e below (T6_11.setTop (mkF m 87 #[.val (.int p1), .val (.int p2), .val (.int p3), .val (.int p4), .val (.int (1 : Int32)), .val (.int b0), .val (.int b1), .val (.int b2), .val (.ref b5_11), .unset] [(.int (2 : Int32)), (.int (1 : Int32))])) _
        refine XS.icmpYes X6_11.here hx rfl (pc0 := 87) (pc' := 108) rfl (hb hby at_87) rfl (tlt hc87).1 (by decide) (by decide) ?_
        show Steps p.tables e below (T6_11.setTop (mkF m 108 #[.val (.int p1), .val (.int p2), .val (.int p3), .val (.int p4), .val (.int (1 : Int32)), .val (.int b0), .val (.int b1), .val (.int b2), .val (.ref b5_11), .unset] [])) _
        refine XS.iconst X6_11.here hx rfl (hb hby at_108) ?_
        show Steps p.tables e below (T6_11.setTop (mkF m 109 #[.val (.int p1), .val (.int p2), .val (.int p3), .val (.int p4), .val (.int (1 : Int32)), .val (.int b0), .val (.int b1), .val (.int b2), .val (.ref b5_11), .unset] [(.int (0 : Int32))])) _
        refine XS.istore X6_11.here hx rfl (hb hby at_109) rfl (l' := #[.val (.int p1), .val (.int p2), .val (.int p3), .val (.int p4), .val (.int (1 : Int32)), .val (.int b0), .val (.int b1), .val (.int b2), .val (.ref b5_11), .val (.int (0 : Int32))]) rfl ?_
        exact kt
      · exact absurd (by decide) hc87
    have hgot : own_begins (1 : Int32) b0 b1 = ex := by rw [hex]; exact own_same _ _ _ hb0 hb1
    obtain ⟨_, _, ⟨T5_14, L5_14, k5_14, n5_14⟩, -, X5_14, ⟨Lc5_14, hQ5_14, l5_14, y5_14, z5_14⟩, st5_14⟩ := Jvm.LawKit.callS X6_11 hx (y := (⟨"com/example/libtrawl/libtrawl/GzipSource", "begins", "([B)Z"⟩ : MethodName)) hown (mvT hZ (hw _ (List.mem_of_getElem? (i := 1) rfl))) (mvT hZ (hw _ (List.mem_of_getElem? (i := 2) rfl))) (mvT hZ (hw _ (List.mem_of_getElem? (i := 3) rfl))) (mvT hZ (hw _ (List.mem_of_getElem? (i := 4) rfl))) (by decide) (backOf (W := 0) (rm1 l Z a0 hw [] b5_11 (1 : Int32) b0 b1 _ _ h6_11 n0 Zc V2 (fun q => absurd (by decide) q) (fun q => absurd (by decide) q)) hZ (hw _ (List.mem_of_getElem? (i := 4) rfl)) (hw _ (List.mem_of_getElem? (i := 3) rfl)) (by decide) (by decide)) (g := (mkF m 113 #[.val (.int p1), .val (.int p2), .val (.int p3), .val (.int p4), .val (.int (1 : Int32)), .val (.int b0), .val (.int b1), .val (.int b2), .val (.ref b5_11), .val (.int ex)] [(.ref b5_11)])) rfl (by rw [hml]; rfl) (argsL := [(.ref b5_11)]) (rest := []) (lenOf pd_0 rfl) rfl (by show 2 * 0 + _ ≤ _; exact Nat.le_of_eq rfl) (hb hby at_113) (fun _ _ => ⟨rfl, e6_11, (by decide : 0 + 1 + 0 ≤ _), (by decide : 0 + 1 + 0 ≤ _)⟩)
    dsimp only [Pt.U, Pt.locs, Pt.cells, Pt.slots] at X5_14 l5_14 y5_14 z5_14 st5_14 hQ5_14
    subst l5_14 y5_14 z5_14
    obtain ⟨rfl, N5q_14, gq_14⟩ := hQ5_14
    have N5_14 := Fr.app N6_11 N5q_14
    have st_14p : ∀ target, Steps p.tables e below (T5_14.setTop (mkF m 126 #[.val (.int p1), .val (.int p2), .val (.int p3), .val (.int p4), .val (.int (1 : Int32)), .val (.int b0), .val (.int b1), .val (.int b2), .val (.ref b5_11), .val (.int ex)] [(.int (1 : Int32))])) target → Steps p.tables e below (T6_11.setTop (mkF m 111 #[.val (.int p1), .val (.int p2), .val (.int p3), .val (.int p4), .val (.int (1 : Int32)), .val (.int b0), .val (.int b1), .val (.int b2), .val (.ref b5_11), .val (.int ex)] [])) target := by
      intro target kt
      show Steps p.tables e below (T6_11.setTop (mkF m 111 #[.val (.int p1), .val (.int p2), .val (.int p3), .val (.int p4), .val (.int (1 : Int32)), .val (.int b0), .val (.int b1), .val (.int b2), .val (.ref b5_11), .val (.int ex)] [])) _
      refine XS.aload X6_11.here hx rfl (hb hby at_111) rfl rfl ?_
      show Steps p.tables e below (T6_11.setTop (mkF m 113 #[.val (.int p1), .val (.int p2), .val (.int p3), .val (.int p4), .val (.int (1 : Int32)), .val (.int b0), .val (.int b1), .val (.int b2), .val (.ref b5_11), .val (.int ex)] [(.ref b5_11)])) _
      refine st5_14 _ ?_
      show Steps p.tables e below (T5_14.setTop (mkF m 116 #[.val (.int p1), .val (.int p2), .val (.int p3), .val (.int p4), .val (.int (1 : Int32)), .val (.int b0), .val (.int b1), .val (.int b2), .val (.ref b5_11), .val (.int ex)] [(.int (own_begins (1 : Int32) b0 b1))])) _
      refine XS.iload X5_14.here hx rfl (hb hby at_116) rfl ?_
      show Steps p.tables e below (T5_14.setTop (mkF m 118 #[.val (.int p1), .val (.int p2), .val (.int p3), .val (.int p4), .val (.int (1 : Int32)), .val (.int b0), .val (.int b1), .val (.int b2), .val (.ref b5_11), .val (.int ex)] [(.int ex), (.int (own_begins (1 : Int32) b0 b1))])) _
      refine XS.icmpNo X5_14.here hx rfl (hb hby at_118) rfl (teq (hgot : (own_begins (1 : Int32) b0 b1) = ex)).2 ?_
      show Steps p.tables e below (T5_14.setTop (mkF m 121 #[.val (.int p1), .val (.int p2), .val (.int p3), .val (.int p4), .val (.int (1 : Int32)), .val (.int b0), .val (.int b1), .val (.int b2), .val (.ref b5_11), .val (.int ex)] [])) _
      refine XS.iconst X5_14.here hx rfl (hb hby at_121) ?_
      show Steps p.tables e below (T5_14.setTop (mkF m 122 #[.val (.int p1), .val (.int p2), .val (.int p3), .val (.int p4), .val (.int (1 : Int32)), .val (.int b0), .val (.int b1), .val (.int b2), .val (.ref b5_11), .val (.int ex)] [(.int (1 : Int32))])) _
      refine XS.goto X5_14.here hx rfl (pc0 := 122) (pc' := 126) rfl (hb hby at_122) (by decide) (by decide) ?_
      exact kt
    obtain ⟨fs, hr, hrun, hended, hW, hsame⟩ := X5_14.leave (v := some (.int (1 : Int32))) (fun h => by rw [Bd.returns] at h; cases h)
    refine ⟨_, _, pre0 _ ?_, hrun, hended, _, _, rfl, ?_, ⟨_, rfl⟩, hW, hsame.mono (by decide) (by decide)⟩
    · show Steps p.tables e below (s₁.setTop (mkF m 0 #[.val (.int p1), .val (.int p2), .val (.int p3), .val (.int p4), .unset, .unset, .unset, .unset, .unset, .unset] [])) _
      refine st_3p _ ?_
      refine st_6p _ ?_
      refine st_11p _ ?_
      refine st_13p _ ?_
      refine st_14p _ ?_
      exact retN X5_14 hx (t := .boolean) Bd.returns (by simp) (hb hby at_126) hr
    · show Q0 Z p1 p2 p3 p4 h0 n0 _ T5_14.heap _
      exact ⟨rfl, N5_14⟩
  · have hc51_15 : (0 : Int32) < (2 : Int32) := (by decide)
    have hc63_15 : (1 : Int32) < (2 : Int32) := (by decide)
    have hc75_15 : ¬ ((2 : Int32) < (2 : Int32)) := (by decide)
    obtain ⟨T5_15, h5_15, k5_15, X5_15, e5_15, E5_15, A5_15, st5_15⟩ := newP X0 hx hZ (hw _ (List.mem_of_getElem? (i := 0) rfl)) e0 (g := (mkF m 45 #[.val (.int p1), .val (.int p2), .val (.int p3), .val (.int p4), .val (.int (2 : Int32)), .val (.int b0), .val (.int b1), .val (.int b2), .unset, .unset] [(.int (2 : Int32))])) rfl (hb hby at_45) rfl (by decide) (cap := 2) (by decide) (by decide) (by decide) (by decide)
    obtain ⟨b5_15, g5_15⟩ : ∃ z, z = h0.size := ⟨_, rfl⟩
    rw [← g5_15] at A5_15 st5_15
    have V_b5_15 : Arv Z h5_15 b5_15 k5_15 .byte (2 : Int32) [.int 0, .int 0] (.int 0) := (Arv.new A5_15 (by decide)).pad (pad_rep [] (.int 0) 2)
    have g_b5_15 : n0 ≤ b5_15 := Nat.le_trans Z0 (Nat.le_of_eq g5_15.symm)
    have sz_b5_15 : h0.size ≤ b5_15 := (Nat.le_trans (Keep.refl h0 []).1 (Nat.le_of_eq g5_15.symm))
    have K5_15 : Keep h0 h5_15 [] := (Keep.refl h0 []).ext E5_15
    obtain ⟨cl_b5_59_15, Ar_b5_15, q_b5_15, S_b5_15, N_b5_15, H_b5_15, G_b5_15⟩ := V_b5_15
    have hin59_15 : ¬ ((0 : Int32) < 0 ∨ cl_b5_59_15.slots.size ≤ ((0 : Int32)).toNatClampNeg) := inb_of S_b5_15 ⟨by decide, by decide⟩
    obtain ⟨T6_15, h6_15, X6_15, e6_15, W6_15, st6_15⟩ := stB X5_15 hx hZ e5_15 Ar_b5_15 (j := (0 : Int32)) hin59_15 (g := (mkF m 59 #[.val (.int p1), .val (.int p2), .val (.int p3), .val (.int p4), .val (.int (2 : Int32)), .val (.int b0), .val (.int b1), .val (.int b2), .val (.ref b5_15), .unset] [(.int b0), (.int (0 : Int32)), (.ref b5_15)])) rfl rfl (hb hby at_59)
    have V_b5_6_15 := Arv.set Ar_b5_15 q_b5_15 S_b5_15 N_b5_15 H_b5_15 G_b5_15 (fits_nar_byte _) W6_15 0 rfl (Nat.le_of_ble_eq_true rfl)
    have K6_15 : Keep h0 h6_15 [] := K5_15.wr W6_15 (Or.inr sz_b5_15)
    have N6_15 := Fr.snoc X6_15 N0 g_b5_15
    obtain ⟨cl_b5_71_15, Ar_b5_15, q_b5_15, S_b5_15, N_b5_15, H_b5_15, G_b5_15⟩ := V_b5_6_15
    have hin71_15 : ¬ ((1 : Int32) < 0 ∨ cl_b5_71_15.slots.size ≤ ((1 : Int32)).toNatClampNeg) := inb_of S_b5_15 ⟨by decide, by decide⟩
    obtain ⟨T7_15, h7_15, X7_15, e7_15, W7_15, st7_15⟩ := stB X6_15 hx hZ e6_15 Ar_b5_15 (j := (1 : Int32)) hin71_15 (g := (mkF m 71 #[.val (.int p1), .val (.int p2), .val (.int p3), .val (.int p4), .val (.int (2 : Int32)), .val (.int b0), .val (.int b1), .val (.int b2), .val (.ref b5_15), .unset] [(.int b1), (.int (1 : Int32)), (.ref b5_15)])) rfl rfl (hb hby at_71)
    have V_b5_7_15 := Arv.set Ar_b5_15 q_b5_15 S_b5_15 N_b5_15 H_b5_15 G_b5_15 (fits_nar_byte _) W7_15 1 rfl (Nat.le_of_ble_eq_true rfl)
    have K7_15 : Keep h0 h7_15 [] := K6_15.wr W7_15 (Or.inr sz_b5_15)
    have N7_15 := Fr.snoc X7_15 N6_15 g_b5_15
    have st_15p : ∀ target, Steps p.tables e below (T7_15.setTop (mkF m 84 #[.val (.int p1), .val (.int p2), .val (.int p3), .val (.int p4), .val (.int (2 : Int32)), .val (.int b0), .val (.int b1), .val (.int b2), .val (.ref b5_15), .unset] [])) target → Steps p.tables e below (s₁.setTop (mkF m 43 #[.val (.int p1), .val (.int p2), .val (.int p3), .val (.int p4), .val (.int (2 : Int32)), .val (.int b0), .val (.int b1), .val (.int b2), .unset, .unset] [])) target := by
      intro target kt
      show Steps p.tables e below (s₁.setTop (mkF m 43 #[.val (.int p1), .val (.int p2), .val (.int p3), .val (.int p4), .val (.int (2 : Int32)), .val (.int b0), .val (.int b1), .val (.int b2), .unset, .unset] [])) _
      refine XS.iload X0.here hx rfl (hb hby at_43) rfl ?_
      show Steps p.tables e below (s₁.setTop (mkF m 45 #[.val (.int p1), .val (.int p2), .val (.int p3), .val (.int p4), .val (.int (2 : Int32)), .val (.int b0), .val (.int b1), .val (.int b2), .unset, .unset] [(.int (2 : Int32))])) _
      refine st5_15 _ ?_
      show Steps p.tables e below (T5_15.setTop (mkF m 47 #[.val (.int p1), .val (.int p2), .val (.int p3), .val (.int p4), .val (.int (2 : Int32)), .val (.int b0), .val (.int b1), .val (.int b2), .unset, .unset] [(.ref b5_15)])) _
      refine XS.astore X5_15.here hx rfl (hb hby at_47) rfl rfl (l' := #[.val (.int p1), .val (.int p2), .val (.int p3), .val (.int p4), .val (.int (2 : Int32)), .val (.int b0), .val (.int b1), .val (.int b2), .val (.ref b5_15), .unset]) rfl ?_
      show Steps p.tables e below (T5_15.setTop (mkF m 49 #[.val (.int p1), .val (.int p2), .val (.int p3), .val (.int p4), .val (.int (2 : Int32)), .val (.int b0), .val (.int b1), .val (.int b2), .val (.ref b5_15), .unset] [])) _
      refine XS.iload X5_15.here hx rfl (hb hby at_49) rfl ?_
      show Steps p.tables e below (T5_15.setTop (mkF m 51 #[.val (.int p1), .val (.int p2), .val (.int p3), .val (.int p4), .val (.int (2 : Int32)), .val (.int b0), .val (.int b1), .val (.int b2), .val (.ref b5_15), .unset] [(.int (2 : Int32))])) _
      refine XS.ifNo X5_15.here hx rfl (hb hby at_51) rfl ((if0 _ _).trans (tlt hc51_15).2.2.2) ?_
      show Steps p.tables e below (T5_15.setTop (mkF m 54 #[.val (.int p1), .val (.int p2), .val (.int p3), .val (.int p4), .val (.int (2 : Int32)), .val (.int b0), .val (.int b1), .val (.int b2), .val (.ref b5_15), .unset] [])) _
      refine XS.aload X5_15.here hx rfl (hb hby at_54) rfl rfl ?_
      show Steps p.tables e below (T5_15.setTop (mkF m 56 #[.val (.int p1), .val (.int p2), .val (.int p3), .val (.int p4), .val (.int (2 : Int32)), .val (.int b0), .val (.int b1), .val (.int b2), .val (.ref b5_15), .unset] [(.ref b5_15)])) _
      refine XS.iconst X5_15.here hx rfl (hb hby at_56) ?_
      show Steps p.tables e below (T5_15.setTop (mkF m 57 #[.val (.int p1), .val (.int p2), .val (.int p3), .val (.int p4), .val (.int (2 : Int32)), .val (.int b0), .val (.int b1), .val (.int b2), .val (.ref b5_15), .unset] [(.int (0 : Int32)), (.ref b5_15)])) _
      refine XS.iload X5_15.here hx rfl (hb hby at_57) rfl ?_
      show Steps p.tables e below (T5_15.setTop (mkF m 59 #[.val (.int p1), .val (.int p2), .val (.int p3), .val (.int p4), .val (.int (2 : Int32)), .val (.int b0), .val (.int b1), .val (.int b2), .val (.ref b5_15), .unset] [(.int b0), (.int (0 : Int32)), (.ref b5_15)])) _
      refine st6_15 _ ?_
      show Steps p.tables e below (T6_15.setTop (mkF m 60 #[.val (.int p1), .val (.int p2), .val (.int p3), .val (.int p4), .val (.int (2 : Int32)), .val (.int b0), .val (.int b1), .val (.int b2), .val (.ref b5_15), .unset] [])) _
      refine XS.iload X6_15.here hx rfl (hb hby at_60) rfl ?_
      show Steps p.tables e below (T6_15.setTop (mkF m 62 #[.val (.int p1), .val (.int p2), .val (.int p3), .val (.int p4), .val (.int (2 : Int32)), .val (.int b0), .val (.int b1), .val (.int b2), .val (.ref b5_15), .unset] [(.int (2 : Int32))])) _
      refine XS.iconst X6_15.here hx rfl (hb hby at_62) ?_
      show Steps p.tables e below (T6_15.setTop (mkF m 63 #[.val (.int p1), .val (.int p2), .val (.int p3), .val (.int p4), .val (.int (2 : Int32)), .val (.int b0), .val (.int b1), .val (.int b2), .val (.ref b5_15), .unset] [(.int (1 : Int32)), (.int (2 : Int32))])) _
      refine XS.icmpNo X6_15.here hx rfl (hb hby at_63) rfl (tlt hc63_15).2.2.2 ?_
      show Steps p.tables e below (T6_15.setTop (mkF m 66 #[.val (.int p1), .val (.int p2), .val (.int p3), .val (.int p4), .val (.int (2 : Int32)), .val (.int b0), .val (.int b1), .val (.int b2), .val (.ref b5_15), .unset] [])) _
      refine XS.aload X6_15.here hx rfl (hb hby at_66) rfl rfl ?_
      show Steps p.tables e below (T6_15.setTop (mkF m 68 #[.val (.int p1), .val (.int p2), .val (.int p3), .val (.int p4), .val (.int (2 : Int32)), .val (.int b0), .val (.int b1), .val (.int b2), .val (.ref b5_15), .unset] [(.ref b5_15)])) _
      refine XS.iconst X6_15.here hx rfl (hb hby at_68) ?_
      show Steps p.tables e below (T6_15.setTop (mkF m 69 #[.val (.int p1), .val (.int p2), .val (.int p3), .val (.int p4), .val (.int (2 : Int32)), .val (.int b0), .val (.int b1), .val (.int b2), .val (.ref b5_15), .unset] [(.int (1 : Int32)), (.ref b5_15)])) _
      refine XS.iload X6_15.here hx rfl (hb hby at_69) rfl ?_
      show Steps p.tables e below (T6_15.setTop (mkF m 71 #[.val (.int p1), .val (.int p2), .val (.int p3), .val (.int p4), .val (.int (2 : Int32)), .val (.int b0), .val (.int b1), .val (.int b2), .val (.ref b5_15), .unset] [(.int b1), (.int (1 : Int32)), (.ref b5_15)])) _
      refine st7_15 _ ?_
      show Steps p.tables e below (T7_15.setTop (mkF m 72 #[.val (.int p1), .val (.int p2), .val (.int p3), .val (.int p4), .val (.int (2 : Int32)), .val (.int b0), .val (.int b1), .val (.int b2), .val (.ref b5_15), .unset] [])) _
      refine XS.iload X7_15.here hx rfl (hb hby at_72) rfl ?_
      show Steps p.tables e below (T7_15.setTop (mkF m 74 #[.val (.int p1), .val (.int p2), .val (.int p3), .val (.int p4), .val (.int (2 : Int32)), .val (.int b0), .val (.int b1), .val (.int b2), .val (.ref b5_15), .unset] [(.int (2 : Int32))])) _
      refine XS.iconst X7_15.here hx rfl (hb hby at_74) ?_
      show Steps p.tables e below (T7_15.setTop (mkF m 75 #[.val (.int p1), .val (.int p2), .val (.int p3), .val (.int p4), .val (.int (2 : Int32)), .val (.int b0), .val (.int b1), .val (.int b2), .val (.ref b5_15), .unset] [(.int (2 : Int32)), (.int (2 : Int32))])) _
      refine XS.icmpYes X7_15.here hx rfl (pc0 := 75) (pc' := 84) rfl (hb hby at_75) rfl (flt hc75_15).2.2.2 (by decide) (by decide) ?_
      exact kt
    have V2 : Arv Z h7_15 b5_15 k5_15 .byte (2 : Int32) [.int b0, .int b1] (.int 0) := by
      have q := V_b5_7_15
      simp only [List.set_cons_zero, List.set_cons_succ, hb0, hb1, hb2'] at q
      exact q
    have Zc : n0 ≤ h7_15.size := Nat.le_trans Z0 K7_15.1
    obtain ⟨ex, hex, st_19p⟩ : ∃ (ex : Int32), (ex = own_exp (2 : Int32) b0 b1) ∧ ∀ target, Steps p.tables e below (T7_15.setTop (mkF m 111 #[.val (.int p1), .val (.int p2), .val (.int p3), .val (.int p4), .val (.int (2 : Int32)), .val (.int b0), .val (.int b1), .val (.int b2), .val (.ref b5_15), .val (.int ex)] [])) target → Steps p.tables e below (T7_15.setTop (mkF m 84 #[.val (.int p1), .val (.int p2), .val (.int p3), .val (.int p4), .val (.int (2 : Int32)), .val (.int b0), .val (.int b1), .val (.int b2), .val (.ref b5_15), .unset] [])) target := by
      by_cases hc87 : (2 : Int32) < (2 : Int32)
      · exact absurd hc87 (by decide)
      · by_cases hc94 : b0 = (31 : Int32)
        · by_cases hc101 : b1 = (-117 : Int32)
          · refine ⟨(1 : Int32), by simp [own_exp, hc94, hc101], fun target kt => ?_⟩
            show Steps p.tables e below (T7_15.setTop (mkF m 84 #[.val (.int p1), .val (.int p2), .val (.int p3), .val (.int p4), .val (.int (2 : Int32)), .val (.int b0), .val (.int b1), .val (.int b2), .val (.ref b5_15), .unset] [])) _
            refine XS.iload X7_15.here hx rfl (hb hby at_84) rfl ?_
            show Steps p.tables e below (T7_15.setTop (mkF m 86 #[.val (.int p1), .val (.int p2), .val (.int p3), .val (.int p4), .val (.int (2 : Int32)), .val (.int b0), .val (.int b1), .val (.int b2), .val (.ref b5_15), .unset] [(.int (2 : Int32))])) _
            refine XS.iconst X7_15.here hx rfl (hb hby at_86) ?_
            show Steps p.tables e below (T7_15.setTop (mkF m 87 #[.val (.int p1), .val (.int p2), .val (.int p3), .val (.int p4), .val (.int (2 : Int32)), .val (.int b0), .val (.int b1), .val (.int b2), .val (.ref b5_15), .unset] [(.int (2 : Int32)), (.int (2 : Int32))])) _
            refine XS.icmpNo X7_15.here hx rfl (hb hby at_87) rfl (flt hc87).1 ?_
            show Steps p.tables e below (T7_15.setTop (mkF m 90 #[.val (.int p1), .val (.int p2), .val (.int p3), .val (.int p4), .val (.int (2 : Int32)), .val (.int b0), .val (.int b1), .val (.int b2), .val (.ref b5_15), .unset] [])) _
            refine XS.iload X7_15.here hx rfl (hb hby at_90) rfl ?_
            show Steps p.tables e below (T7_15.setTop (mkF m 92 #[.val (.int p1), .val (.int p2), .val (.int p3), .val (.int p4), .val (.int (2 : Int32)), .val (.int b0), .val (.int b1), .val (.int b2), .val (.ref b5_15), .unset] [(.int b0)])) _
            refine XS.bipush X7_15.here hx rfl (hb hby at_92) ?_
            show Steps p.tables e below (T7_15.setTop (mkF m 94 #[.val (.int p1), .val (.int p2), .val (.int p3), .val (.int p4), .val (.int (2 : Int32)), .val (.int b0), .val (.int b1), .val (.int b2), .val (.ref b5_15), .unset] [(.int (31 : Int32)), (.int b0)])) _
            refine XS.icmpNo X7_15.here hx rfl (hb hby at_94) rfl (teq hc94).2 ?_
            show Steps p.tables e below (T7_15.setTop (mkF m 97 #[.val (.int p1), .val (.int p2), .val (.int p3), .val (.int p4), .val (.int (2 : Int32)), .val (.int b0), .val (.int b1), .val (.int b2), .val (.ref b5_15), .unset] [])) _
            refine XS.iload X7_15.here hx rfl (hb hby at_97) rfl ?_
            show Steps p.tables e below (T7_15.setTop (mkF m 99 #[.val (.int p1), .val (.int p2), .val (.int p3), .val (.int p4), .val (.int (2 : Int32)), .val (.int b0), .val (.int b1), .val (.int b2), .val (.ref b5_15), .unset] [(.int b1)])) _
            refine XS.bipush X7_15.here hx rfl (hb hby at_99) ?_
            show Steps p.tables e below (T7_15.setTop (mkF m 101 #[.val (.int p1), .val (.int p2), .val (.int p3), .val (.int p4), .val (.int (2 : Int32)), .val (.int b0), .val (.int b1), .val (.int b2), .val (.ref b5_15), .unset] [(.int (-117 : Int32)), (.int b1)])) _
            refine XS.icmpNo X7_15.here hx rfl (hb hby at_101) rfl (teq hc101).2 ?_
            show Steps p.tables e below (T7_15.setTop (mkF m 104 #[.val (.int p1), .val (.int p2), .val (.int p3), .val (.int p4), .val (.int (2 : Int32)), .val (.int b0), .val (.int b1), .val (.int b2), .val (.ref b5_15), .unset] [])) _
            refine XS.iconst X7_15.here hx rfl (hb hby at_104) ?_
            show Steps p.tables e below (T7_15.setTop (mkF m 105 #[.val (.int p1), .val (.int p2), .val (.int p3), .val (.int p4), .val (.int (2 : Int32)), .val (.int b0), .val (.int b1), .val (.int b2), .val (.ref b5_15), .unset] [(.int (1 : Int32))])) _
            refine XS.goto X7_15.here hx rfl (pc0 := 105) (pc' := 109) rfl (hb hby at_105) (by decide) (by decide) ?_
            show Steps p.tables e below (T7_15.setTop (mkF m 109 #[.val (.int p1), .val (.int p2), .val (.int p3), .val (.int p4), .val (.int (2 : Int32)), .val (.int b0), .val (.int b1), .val (.int b2), .val (.ref b5_15), .unset] [(.int (1 : Int32))])) _
            refine XS.istore X7_15.here hx rfl (hb hby at_109) rfl (l' := #[.val (.int p1), .val (.int p2), .val (.int p3), .val (.int p4), .val (.int (2 : Int32)), .val (.int b0), .val (.int b1), .val (.int b2), .val (.ref b5_15), .val (.int (1 : Int32))]) rfl ?_
            exact kt
          · refine ⟨(0 : Int32), by simp [own_exp, hc94, hc101], fun target kt => ?_⟩
            show Steps p.tables e below (T7_15.setTop (mkF m 84 #[.val (.int p1), .val (.int p2), .val (.int p3), .val (.int p4), .val (.int (2 : Int32)), .val (.int b0), .val (.int b1), .val (.int b2), .val (.ref b5_15), .unset] [])) _
            refine XS.iload X7_15.here hx rfl (hb hby at_84) rfl ?_
            show Steps p.tables e below (T7_15.setTop (mkF m 86 #[.val (.int p1), .val (.int p2), .val (.int p3), .val (.int p4), .val (.int (2 : Int32)), .val (.int b0), .val (.int b1), .val (.int b2), .val (.ref b5_15), .unset] [(.int (2 : Int32))])) _
            refine XS.iconst X7_15.here hx rfl (hb hby at_86) ?_
            show Steps p.tables e below (T7_15.setTop (mkF m 87 #[.val (.int p1), .val (.int p2), .val (.int p3), .val (.int p4), .val (.int (2 : Int32)), .val (.int b0), .val (.int b1), .val (.int b2), .val (.ref b5_15), .unset] [(.int (2 : Int32)), (.int (2 : Int32))])) _
            refine XS.icmpNo X7_15.here hx rfl (hb hby at_87) rfl (flt hc87).1 ?_
            show Steps p.tables e below (T7_15.setTop (mkF m 90 #[.val (.int p1), .val (.int p2), .val (.int p3), .val (.int p4), .val (.int (2 : Int32)), .val (.int b0), .val (.int b1), .val (.int b2), .val (.ref b5_15), .unset] [])) _
            refine XS.iload X7_15.here hx rfl (hb hby at_90) rfl ?_
            show Steps p.tables e below (T7_15.setTop (mkF m 92 #[.val (.int p1), .val (.int p2), .val (.int p3), .val (.int p4), .val (.int (2 : Int32)), .val (.int b0), .val (.int b1), .val (.int b2), .val (.ref b5_15), .unset] [(.int b0)])) _
            refine XS.bipush X7_15.here hx rfl (hb hby at_92) ?_
            show Steps p.tables e below (T7_15.setTop (mkF m 94 #[.val (.int p1), .val (.int p2), .val (.int p3), .val (.int p4), .val (.int (2 : Int32)), .val (.int b0), .val (.int b1), .val (.int b2), .val (.ref b5_15), .unset] [(.int (31 : Int32)), (.int b0)])) _
            refine XS.icmpNo X7_15.here hx rfl (hb hby at_94) rfl (teq hc94).2 ?_
            show Steps p.tables e below (T7_15.setTop (mkF m 97 #[.val (.int p1), .val (.int p2), .val (.int p3), .val (.int p4), .val (.int (2 : Int32)), .val (.int b0), .val (.int b1), .val (.int b2), .val (.ref b5_15), .unset] [])) _
            refine XS.iload X7_15.here hx rfl (hb hby at_97) rfl ?_
            show Steps p.tables e below (T7_15.setTop (mkF m 99 #[.val (.int p1), .val (.int p2), .val (.int p3), .val (.int p4), .val (.int (2 : Int32)), .val (.int b0), .val (.int b1), .val (.int b2), .val (.ref b5_15), .unset] [(.int b1)])) _
            refine XS.bipush X7_15.here hx rfl (hb hby at_99) ?_
            show Steps p.tables e below (T7_15.setTop (mkF m 101 #[.val (.int p1), .val (.int p2), .val (.int p3), .val (.int p4), .val (.int (2 : Int32)), .val (.int b0), .val (.int b1), .val (.int b2), .val (.ref b5_15), .unset] [(.int (-117 : Int32)), (.int b1)])) _
            refine XS.icmpYes X7_15.here hx rfl (pc0 := 101) (pc' := 108) rfl (hb hby at_101) rfl (feq hc101).2 (by decide) (by decide) ?_
            show Steps p.tables e below (T7_15.setTop (mkF m 108 #[.val (.int p1), .val (.int p2), .val (.int p3), .val (.int p4), .val (.int (2 : Int32)), .val (.int b0), .val (.int b1), .val (.int b2), .val (.ref b5_15), .unset] [])) _
            refine XS.iconst X7_15.here hx rfl (hb hby at_108) ?_
            show Steps p.tables e below (T7_15.setTop (mkF m 109 #[.val (.int p1), .val (.int p2), .val (.int p3), .val (.int p4), .val (.int (2 : Int32)), .val (.int b0), .val (.int b1), .val (.int b2), .val (.ref b5_15), .unset] [(.int (0 : Int32))])) _
            refine XS.istore X7_15.here hx rfl (hb hby at_109) rfl (l' := #[.val (.int p1), .val (.int p2), .val (.int p3), .val (.int p4), .val (.int (2 : Int32)), .val (.int b0), .val (.int b1), .val (.int b2), .val (.ref b5_15), .val (.int (0 : Int32))]) rfl ?_
            exact kt
        · refine ⟨(0 : Int32), by simp [own_exp, hc94], fun target kt => ?_⟩
          show Steps p.tables e below (T7_15.setTop (mkF m 84 #[.val (.int p1), .val (.int p2), .val (.int p3), .val (.int p4), .val (.int (2 : Int32)), .val (.int b0), .val (.int b1), .val (.int b2), .val (.ref b5_15), .unset] [])) _
          refine XS.iload X7_15.here hx rfl (hb hby at_84) rfl ?_
          show Steps p.tables e below (T7_15.setTop (mkF m 86 #[.val (.int p1), .val (.int p2), .val (.int p3), .val (.int p4), .val (.int (2 : Int32)), .val (.int b0), .val (.int b1), .val (.int b2), .val (.ref b5_15), .unset] [(.int (2 : Int32))])) _
          refine XS.iconst X7_15.here hx rfl (hb hby at_86) ?_
          show Steps p.tables e below (T7_15.setTop (mkF m 87 #[.val (.int p1), .val (.int p2), .val (.int p3), .val (.int p4), .val (.int (2 : Int32)), .val (.int b0), .val (.int b1), .val (.int b2), .val (.ref b5_15), .unset] [(.int (2 : Int32)), (.int (2 : Int32))])) _
          refine XS.icmpNo X7_15.here hx rfl (hb hby at_87) rfl (flt hc87).1 ?_
          show Steps p.tables e below (T7_15.setTop (mkF m 90 #[.val (.int p1), .val (.int p2), .val (.int p3), .val (.int p4), .val (.int (2 : Int32)), .val (.int b0), .val (.int b1), .val (.int b2), .val (.ref b5_15), .unset] [])) _
          refine XS.iload X7_15.here hx rfl (hb hby at_90) rfl ?_
          show Steps p.tables e below (T7_15.setTop (mkF m 92 #[.val (.int p1), .val (.int p2), .val (.int p3), .val (.int p4), .val (.int (2 : Int32)), .val (.int b0), .val (.int b1), .val (.int b2), .val (.ref b5_15), .unset] [(.int b0)])) _
          refine XS.bipush X7_15.here hx rfl (hb hby at_92) ?_
          show Steps p.tables e below (T7_15.setTop (mkF m 94 #[.val (.int p1), .val (.int p2), .val (.int p3), .val (.int p4), .val (.int (2 : Int32)), .val (.int b0), .val (.int b1), .val (.int b2), .val (.ref b5_15), .unset] [(.int (31 : Int32)), (.int b0)])) _
          refine XS.icmpYes X7_15.here hx rfl (pc0 := 94) (pc' := 108) rfl (hb hby at_94) rfl (feq hc94).2 (by decide) (by decide) ?_
          show Steps p.tables e below (T7_15.setTop (mkF m 108 #[.val (.int p1), .val (.int p2), .val (.int p3), .val (.int p4), .val (.int (2 : Int32)), .val (.int b0), .val (.int b1), .val (.int b2), .val (.ref b5_15), .unset] [])) _
          refine XS.iconst X7_15.here hx rfl (hb hby at_108) ?_
          show Steps p.tables e below (T7_15.setTop (mkF m 109 #[.val (.int p1), .val (.int p2), .val (.int p3), .val (.int p4), .val (.int (2 : Int32)), .val (.int b0), .val (.int b1), .val (.int b2), .val (.ref b5_15), .unset] [(.int (0 : Int32))])) _
          refine XS.istore X7_15.here hx rfl (hb hby at_109) rfl (l' := #[.val (.int p1), .val (.int p2), .val (.int p3), .val (.int p4), .val (.int (2 : Int32)), .val (.int b0), .val (.int b1), .val (.int b2), .val (.ref b5_15), .val (.int (0 : Int32))]) rfl ?_
          exact kt
    have hgot : own_begins (2 : Int32) b0 b1 = ex := by rw [hex]; exact own_same _ _ _ hb0 hb1
    obtain ⟨_, _, ⟨T5_20, L5_20, k5_20, n5_20⟩, -, X5_20, ⟨Lc5_20, hQ5_20, l5_20, y5_20, z5_20⟩, st5_20⟩ := Jvm.LawKit.callS X7_15 hx (y := (⟨"com/example/libtrawl/libtrawl/GzipSource", "begins", "([B)Z"⟩ : MethodName)) hown (mvT hZ (hw _ (List.mem_of_getElem? (i := 1) rfl))) (mvT hZ (hw _ (List.mem_of_getElem? (i := 2) rfl))) (mvT hZ (hw _ (List.mem_of_getElem? (i := 3) rfl))) (mvT hZ (hw _ (List.mem_of_getElem? (i := 4) rfl))) (by decide) (backOf (W := 0) (rm1 l Z a0 hw [] b5_15 (2 : Int32) b0 b1 _ _ h7_15 n0 Zc V2 (fun _ => rfl) (fun _ => rfl)) hZ (hw _ (List.mem_of_getElem? (i := 4) rfl)) (hw _ (List.mem_of_getElem? (i := 3) rfl)) (by decide) (by decide)) (g := (mkF m 113 #[.val (.int p1), .val (.int p2), .val (.int p3), .val (.int p4), .val (.int (2 : Int32)), .val (.int b0), .val (.int b1), .val (.int b2), .val (.ref b5_15), .val (.int ex)] [(.ref b5_15)])) rfl (by rw [hml]; rfl) (argsL := [(.ref b5_15)]) (rest := []) (lenOf pd_0 rfl) rfl (by show 2 * 0 + _ ≤ _; exact Nat.le_of_eq rfl) (hb hby at_113) (fun _ _ => ⟨rfl, e7_15, (by decide : 0 + 1 + 0 ≤ _), (by decide : 0 + 2 + 0 ≤ _)⟩)
    dsimp only [Pt.U, Pt.locs, Pt.cells, Pt.slots] at X5_20 l5_20 y5_20 z5_20 st5_20 hQ5_20
    subst l5_20 y5_20 z5_20
    obtain ⟨rfl, N5q_20, gq_20⟩ := hQ5_20
    have N5_20 := Fr.app N7_15 N5q_20
    have st_20p : ∀ target, Steps p.tables e below (T5_20.setTop (mkF m 126 #[.val (.int p1), .val (.int p2), .val (.int p3), .val (.int p4), .val (.int (2 : Int32)), .val (.int b0), .val (.int b1), .val (.int b2), .val (.ref b5_15), .val (.int ex)] [(.int (1 : Int32))])) target → Steps p.tables e below (T7_15.setTop (mkF m 111 #[.val (.int p1), .val (.int p2), .val (.int p3), .val (.int p4), .val (.int (2 : Int32)), .val (.int b0), .val (.int b1), .val (.int b2), .val (.ref b5_15), .val (.int ex)] [])) target := by
      intro target kt
      show Steps p.tables e below (T7_15.setTop (mkF m 111 #[.val (.int p1), .val (.int p2), .val (.int p3), .val (.int p4), .val (.int (2 : Int32)), .val (.int b0), .val (.int b1), .val (.int b2), .val (.ref b5_15), .val (.int ex)] [])) _
      refine XS.aload X7_15.here hx rfl (hb hby at_111) rfl rfl ?_
      show Steps p.tables e below (T7_15.setTop (mkF m 113 #[.val (.int p1), .val (.int p2), .val (.int p3), .val (.int p4), .val (.int (2 : Int32)), .val (.int b0), .val (.int b1), .val (.int b2), .val (.ref b5_15), .val (.int ex)] [(.ref b5_15)])) _
      refine st5_20 _ ?_
      show Steps p.tables e below (T5_20.setTop (mkF m 116 #[.val (.int p1), .val (.int p2), .val (.int p3), .val (.int p4), .val (.int (2 : Int32)), .val (.int b0), .val (.int b1), .val (.int b2), .val (.ref b5_15), .val (.int ex)] [(.int (own_begins (2 : Int32) b0 b1))])) _
      refine XS.iload X5_20.here hx rfl (hb hby at_116) rfl ?_
      show Steps p.tables e below (T5_20.setTop (mkF m 118 #[.val (.int p1), .val (.int p2), .val (.int p3), .val (.int p4), .val (.int (2 : Int32)), .val (.int b0), .val (.int b1), .val (.int b2), .val (.ref b5_15), .val (.int ex)] [(.int ex), (.int (own_begins (2 : Int32) b0 b1))])) _
      refine XS.icmpNo X5_20.here hx rfl (hb hby at_118) rfl (teq (hgot : (own_begins (2 : Int32) b0 b1) = ex)).2 ?_
      show Steps p.tables e below (T5_20.setTop (mkF m 121 #[.val (.int p1), .val (.int p2), .val (.int p3), .val (.int p4), .val (.int (2 : Int32)), .val (.int b0), .val (.int b1), .val (.int b2), .val (.ref b5_15), .val (.int ex)] [])) _
      refine XS.iconst X5_20.here hx rfl (hb hby at_121) ?_
      show Steps p.tables e below (T5_20.setTop (mkF m 122 #[.val (.int p1), .val (.int p2), .val (.int p3), .val (.int p4), .val (.int (2 : Int32)), .val (.int b0), .val (.int b1), .val (.int b2), .val (.ref b5_15), .val (.int ex)] [(.int (1 : Int32))])) _
      refine XS.goto X5_20.here hx rfl (pc0 := 122) (pc' := 126) rfl (hb hby at_122) (by decide) (by decide) ?_
      exact kt
    obtain ⟨fs, hr, hrun, hended, hW, hsame⟩ := X5_20.leave (v := some (.int (1 : Int32))) (fun h => by rw [Bd.returns] at h; cases h)
    refine ⟨_, _, pre0 _ ?_, hrun, hended, _, _, rfl, ?_, ⟨_, rfl⟩, hW, hsame.mono (by decide) (by decide)⟩
    · show Steps p.tables e below (s₁.setTop (mkF m 0 #[.val (.int p1), .val (.int p2), .val (.int p3), .val (.int p4), .unset, .unset, .unset, .unset, .unset, .unset] [])) _
      refine st_3p _ ?_
      refine st_6p _ ?_
      refine st_15p _ ?_
      refine st_19p _ ?_
      refine st_20p _ ?_
      exact retN X5_20 hx (t := .boolean) Bd.returns (by simp) (hb hby at_126) hr
    · show Q0 Z p1 p2 p3 p4 h0 n0 _ T5_20.heap _
      exact ⟨rfl, N5_20⟩
  · have hc51_21 : (0 : Int32) < (3 : Int32) := (by decide)
    have hc63_21 : (1 : Int32) < (3 : Int32) := (by decide)
    have hc75_21 : (2 : Int32) < (3 : Int32) := (by decide)
    obtain ⟨T5_21, h5_21, k5_21, X5_21, e5_21, E5_21, A5_21, st5_21⟩ := newP X0 hx hZ (hw _ (List.mem_of_getElem? (i := 0) rfl)) e0 (g := (mkF m 45 #[.val (.int p1), .val (.int p2), .val (.int p3), .val (.int p4), .val (.int (3 : Int32)), .val (.int b0), .val (.int b1), .val (.int b2), .unset, .unset] [(.int (3 : Int32))])) rfl (hb hby at_45) rfl (by decide) (cap := 3) (by decide) (by decide) (by decide) (by decide)
    obtain ⟨b5_21, g5_21⟩ : ∃ z, z = h0.size := ⟨_, rfl⟩
    rw [← g5_21] at A5_21 st5_21
    have V_b5_21 : Arv Z h5_21 b5_21 k5_21 .byte (3 : Int32) [.int 0, .int 0, .int 0] (.int 0) := (Arv.new A5_21 (by decide)).pad (pad_rep [] (.int 0) 3)
    have g_b5_21 : n0 ≤ b5_21 := Nat.le_trans Z0 (Nat.le_of_eq g5_21.symm)
    have sz_b5_21 : h0.size ≤ b5_21 := (Nat.le_trans (Keep.refl h0 []).1 (Nat.le_of_eq g5_21.symm))
    have K5_21 : Keep h0 h5_21 [] := (Keep.refl h0 []).ext E5_21
    obtain ⟨cl_b5_59_21, Ar_b5_21, q_b5_21, S_b5_21, N_b5_21, H_b5_21, G_b5_21⟩ := V_b5_21
    have hin59_21 : ¬ ((0 : Int32) < 0 ∨ cl_b5_59_21.slots.size ≤ ((0 : Int32)).toNatClampNeg) := inb_of S_b5_21 ⟨by decide, by decide⟩
    obtain ⟨T6_21, h6_21, X6_21, e6_21, W6_21, st6_21⟩ := stB X5_21 hx hZ e5_21 Ar_b5_21 (j := (0 : Int32)) hin59_21 (g := (mkF m 59 #[.val (.int p1), .val (.int p2), .val (.int p3), .val (.int p4), .val (.int (3 : Int32)), .val (.int b0), .val (.int b1), .val (.int b2), .val (.ref b5_21), .unset] [(.int b0), (.int (0 : Int32)), (.ref b5_21)])) rfl rfl (hb hby at_59)
    have V_b5_6_21 := Arv.set Ar_b5_21 q_b5_21 S_b5_21 N_b5_21 H_b5_21 G_b5_21 (fits_nar_byte _) W6_21 0 rfl (Nat.le_of_ble_eq_true rfl)
    have K6_21 : Keep h0 h6_21 [] := K5_21.wr W6_21 (Or.inr sz_b5_21)
    have N6_21 := Fr.snoc X6_21 N0 g_b5_21
    obtain ⟨cl_b5_71_21, Ar_b5_21, q_b5_21, S_b5_21, N_b5_21, H_b5_21, G_b5_21⟩ := V_b5_6_21
    have hin71_21 : ¬ ((1 : Int32) < 0 ∨ cl_b5_71_21.slots.size ≤ ((1 : Int32)).toNatClampNeg) := inb_of S_b5_21 ⟨by decide, by decide⟩
    obtain ⟨T7_21, h7_21, X7_21, e7_21, W7_21, st7_21⟩ := stB X6_21 hx hZ e6_21 Ar_b5_21 (j := (1 : Int32)) hin71_21 (g := (mkF m 71 #[.val (.int p1), .val (.int p2), .val (.int p3), .val (.int p4), .val (.int (3 : Int32)), .val (.int b0), .val (.int b1), .val (.int b2), .val (.ref b5_21), .unset] [(.int b1), (.int (1 : Int32)), (.ref b5_21)])) rfl rfl (hb hby at_71)
    have V_b5_7_21 := Arv.set Ar_b5_21 q_b5_21 S_b5_21 N_b5_21 H_b5_21 G_b5_21 (fits_nar_byte _) W7_21 1 rfl (Nat.le_of_ble_eq_true rfl)
    have K7_21 : Keep h0 h7_21 [] := K6_21.wr W7_21 (Or.inr sz_b5_21)
    have N7_21 := Fr.snoc X7_21 N6_21 g_b5_21
    obtain ⟨cl_b5_83_21, Ar_b5_21, q_b5_21, S_b5_21, N_b5_21, H_b5_21, G_b5_21⟩ := V_b5_7_21
    have hin83_21 : ¬ ((2 : Int32) < 0 ∨ cl_b5_83_21.slots.size ≤ ((2 : Int32)).toNatClampNeg) := inb_of S_b5_21 ⟨by decide, by decide⟩
    obtain ⟨T8_21, h8_21, X8_21, e8_21, W8_21, st8_21⟩ := stB X7_21 hx hZ e7_21 Ar_b5_21 (j := (2 : Int32)) hin83_21 (g := (mkF m 83 #[.val (.int p1), .val (.int p2), .val (.int p3), .val (.int p4), .val (.int (3 : Int32)), .val (.int b0), .val (.int b1), .val (.int b2), .val (.ref b5_21), .unset] [(.int b2), (.int (2 : Int32)), (.ref b5_21)])) rfl rfl (hb hby at_83)
    have V_b5_8_21 := Arv.set Ar_b5_21 q_b5_21 S_b5_21 N_b5_21 H_b5_21 G_b5_21 (fits_nar_byte _) W8_21 2 rfl (Nat.le_of_ble_eq_true rfl)
    have K8_21 : Keep h0 h8_21 [] := K7_21.wr W8_21 (Or.inr sz_b5_21)
    have N8_21 := Fr.snoc X8_21 N7_21 g_b5_21
    have st_21p : ∀ target, Steps p.tables e below (T8_21.setTop (mkF m 84 #[.val (.int p1), .val (.int p2), .val (.int p3), .val (.int p4), .val (.int (3 : Int32)), .val (.int b0), .val (.int b1), .val (.int b2), .val (.ref b5_21), .unset] [])) target → Steps p.tables e below (s₁.setTop (mkF m 43 #[.val (.int p1), .val (.int p2), .val (.int p3), .val (.int p4), .val (.int (3 : Int32)), .val (.int b0), .val (.int b1), .val (.int b2), .unset, .unset] [])) target := by
      intro target kt
      show Steps p.tables e below (s₁.setTop (mkF m 43 #[.val (.int p1), .val (.int p2), .val (.int p3), .val (.int p4), .val (.int (3 : Int32)), .val (.int b0), .val (.int b1), .val (.int b2), .unset, .unset] [])) _
      refine XS.iload X0.here hx rfl (hb hby at_43) rfl ?_
      show Steps p.tables e below (s₁.setTop (mkF m 45 #[.val (.int p1), .val (.int p2), .val (.int p3), .val (.int p4), .val (.int (3 : Int32)), .val (.int b0), .val (.int b1), .val (.int b2), .unset, .unset] [(.int (3 : Int32))])) _
      refine st5_21 _ ?_
      show Steps p.tables e below (T5_21.setTop (mkF m 47 #[.val (.int p1), .val (.int p2), .val (.int p3), .val (.int p4), .val (.int (3 : Int32)), .val (.int b0), .val (.int b1), .val (.int b2), .unset, .unset] [(.ref b5_21)])) _
      refine XS.astore X5_21.here hx rfl (hb hby at_47) rfl rfl (l' := #[.val (.int p1), .val (.int p2), .val (.int p3), .val (.int p4), .val (.int (3 : Int32)), .val (.int b0), .val (.int b1), .val (.int b2), .val (.ref b5_21), .unset]) rfl ?_
      show Steps p.tables e below (T5_21.setTop (mkF m 49 #[.val (.int p1), .val (.int p2), .val (.int p3), .val (.int p4), .val (.int (3 : Int32)), .val (.int b0), .val (.int b1), .val (.int b2), .val (.ref b5_21), .unset] [])) _
      refine XS.iload X5_21.here hx rfl (hb hby at_49) rfl ?_
      show Steps p.tables e below (T5_21.setTop (mkF m 51 #[.val (.int p1), .val (.int p2), .val (.int p3), .val (.int p4), .val (.int (3 : Int32)), .val (.int b0), .val (.int b1), .val (.int b2), .val (.ref b5_21), .unset] [(.int (3 : Int32))])) _
      refine XS.ifNo X5_21.here hx rfl (hb hby at_51) rfl ((if0 _ _).trans (tlt hc51_21).2.2.2) ?_
      show Steps p.tables e below (T5_21.setTop (mkF m 54 #[.val (.int p1), .val (.int p2), .val (.int p3), .val (.int p4), .val (.int (3 : Int32)), .val (.int b0), .val (.int b1), .val (.int b2), .val (.ref b5_21), .unset] [])) _
      refine XS.aload X5_21.here hx rfl (hb hby at_54) rfl rfl ?_
      show Steps p.tables e below (T5_21.setTop (mkF m 56 #[.val (.int p1), .val (.int p2), .val (.int p3), .val (.int p4), .val (.int (3 : Int32)), .val (.int b0), .val (.int b1), .val (.int b2), .val (.ref b5_21), .unset] [(.ref b5_21)])) _
      refine XS.iconst X5_21.here hx rfl (hb hby at_56) ?_
      show Steps p.tables e below (T5_21.setTop (mkF m 57 #[.val (.int p1), .val (.int p2), .val (.int p3), .val (.int p4), .val (.int (3 : Int32)), .val (.int b0), .val (.int b1), .val (.int b2), .val (.ref b5_21), .unset] [(.int (0 : Int32)), (.ref b5_21)])) _
      refine XS.iload X5_21.here hx rfl (hb hby at_57) rfl ?_
      show Steps p.tables e below (T5_21.setTop (mkF m 59 #[.val (.int p1), .val (.int p2), .val (.int p3), .val (.int p4), .val (.int (3 : Int32)), .val (.int b0), .val (.int b1), .val (.int b2), .val (.ref b5_21), .unset] [(.int b0), (.int (0 : Int32)), (.ref b5_21)])) _
      refine st6_21 _ ?_
      show Steps p.tables e below (T6_21.setTop (mkF m 60 #[.val (.int p1), .val (.int p2), .val (.int p3), .val (.int p4), .val (.int (3 : Int32)), .val (.int b0), .val (.int b1), .val (.int b2), .val (.ref b5_21), .unset] [])) _
      refine XS.iload X6_21.here hx rfl (hb hby at_60) rfl ?_
      show Steps p.tables e below (T6_21.setTop (mkF m 62 #[.val (.int p1), .val (.int p2), .val (.int p3), .val (.int p4), .val (.int (3 : Int32)), .val (.int b0), .val (.int b1), .val (.int b2), .val (.ref b5_21), .unset] [(.int (3 : Int32))])) _
      refine XS.iconst X6_21.here hx rfl (hb hby at_62) ?_
      show Steps p.tables e below (T6_21.setTop (mkF m 63 #[.val (.int p1), .val (.int p2), .val (.int p3), .val (.int p4), .val (.int (3 : Int32)), .val (.int b0), .val (.int b1), .val (.int b2), .val (.ref b5_21), .unset] [(.int (1 : Int32)), (.int (3 : Int32))])) _
      refine XS.icmpNo X6_21.here hx rfl (hb hby at_63) rfl (tlt hc63_21).2.2.2 ?_
      show Steps p.tables e below (T6_21.setTop (mkF m 66 #[.val (.int p1), .val (.int p2), .val (.int p3), .val (.int p4), .val (.int (3 : Int32)), .val (.int b0), .val (.int b1), .val (.int b2), .val (.ref b5_21), .unset] [])) _
      refine XS.aload X6_21.here hx rfl (hb hby at_66) rfl rfl ?_
      show Steps p.tables e below (T6_21.setTop (mkF m 68 #[.val (.int p1), .val (.int p2), .val (.int p3), .val (.int p4), .val (.int (3 : Int32)), .val (.int b0), .val (.int b1), .val (.int b2), .val (.ref b5_21), .unset] [(.ref b5_21)])) _
      refine XS.iconst X6_21.here hx rfl (hb hby at_68) ?_
      show Steps p.tables e below (T6_21.setTop (mkF m 69 #[.val (.int p1), .val (.int p2), .val (.int p3), .val (.int p4), .val (.int (3 : Int32)), .val (.int b0), .val (.int b1), .val (.int b2), .val (.ref b5_21), .unset] [(.int (1 : Int32)), (.ref b5_21)])) _
      refine XS.iload X6_21.here hx rfl (hb hby at_69) rfl ?_
      show Steps p.tables e below (T6_21.setTop (mkF m 71 #[.val (.int p1), .val (.int p2), .val (.int p3), .val (.int p4), .val (.int (3 : Int32)), .val (.int b0), .val (.int b1), .val (.int b2), .val (.ref b5_21), .unset] [(.int b1), (.int (1 : Int32)), (.ref b5_21)])) _
      refine st7_21 _ ?_
      show Steps p.tables e below (T7_21.setTop (mkF m 72 #[.val (.int p1), .val (.int p2), .val (.int p3), .val (.int p4), .val (.int (3 : Int32)), .val (.int b0), .val (.int b1), .val (.int b2), .val (.ref b5_21), .unset] [])) _
      refine XS.iload X7_21.here hx rfl (hb hby at_72) rfl ?_
      show Steps p.tables e below (T7_21.setTop (mkF m 74 #[.val (.int p1), .val (.int p2), .val (.int p3), .val (.int p4), .val (.int (3 : Int32)), .val (.int b0), .val (.int b1), .val (.int b2), .val (.ref b5_21), .unset] [(.int (3 : Int32))])) _
      refine XS.iconst X7_21.here hx rfl (hb hby at_74) ?_
      show Steps p.tables e below (T7_21.setTop (mkF m 75 #[.val (.int p1), .val (.int p2), .val (.int p3), .val (.int p4), .val (.int (3 : Int32)), .val (.int b0), .val (.int b1), .val (.int b2), .val (.ref b5_21), .unset] [(.int (2 : Int32)), (.int (3 : Int32))])) _
      refine XS.icmpNo X7_21.here hx rfl (hb hby at_75) rfl (tlt hc75_21).2.2.2 ?_
      show Steps p.tables e below (T7_21.setTop (mkF m 78 #[.val (.int p1), .val (.int p2), .val (.int p3), .val (.int p4), .val (.int (3 : Int32)), .val (.int b0), .val (.int b1), .val (.int b2), .val (.ref b5_21), .unset] [])) _
      refine XS.aload X7_21.here hx rfl (hb hby at_78) rfl rfl ?_
      show Steps p.tables e below (T7_21.setTop (mkF m 80 #[.val (.int p1), .val (.int p2), .val (.int p3), .val (.int p4), .val (.int (3 : Int32)), .val (.int b0), .val (.int b1), .val (.int b2), .val (.ref b5_21), .unset] [(.ref b5_21)])) _
      refine XS.iconst X7_21.here hx rfl (hb hby at_80) ?_
      show Steps p.tables e below (T7_21.setTop (mkF m 81 #[.val (.int p1), .val (.int p2), .val (.int p3), .val (.int p4), .val (.int (3 : Int32)), .val (.int b0), .val (.int b1), .val (.int b2), .val (.ref b5_21), .unset] [(.int (2 : Int32)), (.ref b5_21)])) _
      refine XS.iload X7_21.here hx rfl (hb hby at_81) rfl ?_
      show Steps p.tables e below (T7_21.setTop (mkF m 83 #[.val (.int p1), .val (.int p2), .val (.int p3), .val (.int p4), .val (.int (3 : Int32)), .val (.int b0), .val (.int b1), .val (.int b2), .val (.ref b5_21), .unset] [(.int b2), (.int (2 : Int32)), (.ref b5_21)])) _
      refine st8_21 _ ?_
      exact kt
    have V2 : Arv Z h8_21 b5_21 k5_21 .byte (3 : Int32) [.int b0, .int b1, .int b2] (.int 0) := by
      have q := V_b5_8_21
      simp only [List.set_cons_zero, List.set_cons_succ, hb0, hb1, hb2'] at q
      exact q
    have Zc : n0 ≤ h8_21.size := Nat.le_trans Z0 K8_21.1
    obtain ⟨ex, hex, st_25p⟩ : ∃ (ex : Int32), (ex = own_exp (3 : Int32) b0 b1) ∧ ∀ target, Steps p.tables e below (T8_21.setTop (mkF m 111 #[.val (.int p1), .val (.int p2), .val (.int p3), .val (.int p4), .val (.int (3 : Int32)), .val (.int b0), .val (.int b1), .val (.int b2), .val (.ref b5_21), .val (.int ex)] [])) target → Steps p.tables e below (T8_21.setTop (mkF m 84 #[.val (.int p1), .val (.int p2), .val (.int p3), .val (.int p4), .val (.int (3 : Int32)), .val (.int b0), .val (.int b1), .val (.int b2), .val (.ref b5_21), .unset] [])) target := by
      by_cases hc87 : (3 : Int32) < (2 : Int32)
      · exact absurd hc87 (by decide)
      · by_cases hc94 : b0 = (31 : Int32)
        · by_cases hc101 : b1 = (-117 : Int32)
          · refine ⟨(1 : Int32), by simp [own_exp, hc94, hc101], fun target kt => ?_⟩
            show Steps p.tables e below (T8_21.setTop (mkF m 84 #[.val (.int p1), .val (.int p2), .val (.int p3), .val (.int p4), .val (.int (3 : Int32)), .val (.int b0), .val (.int b1), .val (.int b2), .val (.ref b5_21), .unset] [])) _
            refine XS.iload X8_21.here hx rfl (hb hby at_84) rfl ?_
            show Steps p.tables e below (T8_21.setTop (mkF m 86 #[.val (.int p1), .val (.int p2), .val (.int p3), .val (.int p4), .val (.int (3 : Int32)), .val (.int b0), .val (.int b1), .val (.int b2), .val (.ref b5_21), .unset] [(.int (3 : Int32))])) _
            refine XS.iconst X8_21.here hx rfl (hb hby at_86) ?_
            show Steps p.tables e below (T8_21.setTop (mkF m 87 #[.val (.int p1), .val (.int p2), .val (.int p3), .val (.int p4), .val (.int (3 : Int32)), .val (.int b0), .val (.int b1), .val (.int b2), .val (.ref b5_21), .unset] [(.int (2 : Int32)), (.int (3 : Int32))])) _
            refine XS.icmpNo X8_21.here hx rfl (hb hby at_87) rfl (flt hc87).1 ?_
            show Steps p.tables e below (T8_21.setTop (mkF m 90 #[.val (.int p1), .val (.int p2), .val (.int p3), .val (.int p4), .val (.int (3 : Int32)), .val (.int b0), .val (.int b1), .val (.int b2), .val (.ref b5_21), .unset] [])) _
            refine XS.iload X8_21.here hx rfl (hb hby at_90) rfl ?_
            show Steps p.tables e below (T8_21.setTop (mkF m 92 #[.val (.int p1), .val (.int p2), .val (.int p3), .val (.int p4), .val (.int (3 : Int32)), .val (.int b0), .val (.int b1), .val (.int b2), .val (.ref b5_21), .unset] [(.int b0)])) _
            refine XS.bipush X8_21.here hx rfl (hb hby at_92) ?_
            show Steps p.tables e below (T8_21.setTop (mkF m 94 #[.val (.int p1), .val (.int p2), .val (.int p3), .val (.int p4), .val (.int (3 : Int32)), .val (.int b0), .val (.int b1), .val (.int b2), .val (.ref b5_21), .unset] [(.int (31 : Int32)), (.int b0)])) _
            refine XS.icmpNo X8_21.here hx rfl (hb hby at_94) rfl (teq hc94).2 ?_
            show Steps p.tables e below (T8_21.setTop (mkF m 97 #[.val (.int p1), .val (.int p2), .val (.int p3), .val (.int p4), .val (.int (3 : Int32)), .val (.int b0), .val (.int b1), .val (.int b2), .val (.ref b5_21), .unset] [])) _
            refine XS.iload X8_21.here hx rfl (hb hby at_97) rfl ?_
            show Steps p.tables e below (T8_21.setTop (mkF m 99 #[.val (.int p1), .val (.int p2), .val (.int p3), .val (.int p4), .val (.int (3 : Int32)), .val (.int b0), .val (.int b1), .val (.int b2), .val (.ref b5_21), .unset] [(.int b1)])) _
            refine XS.bipush X8_21.here hx rfl (hb hby at_99) ?_
            show Steps p.tables e below (T8_21.setTop (mkF m 101 #[.val (.int p1), .val (.int p2), .val (.int p3), .val (.int p4), .val (.int (3 : Int32)), .val (.int b0), .val (.int b1), .val (.int b2), .val (.ref b5_21), .unset] [(.int (-117 : Int32)), (.int b1)])) _
            refine XS.icmpNo X8_21.here hx rfl (hb hby at_101) rfl (teq hc101).2 ?_
            show Steps p.tables e below (T8_21.setTop (mkF m 104 #[.val (.int p1), .val (.int p2), .val (.int p3), .val (.int p4), .val (.int (3 : Int32)), .val (.int b0), .val (.int b1), .val (.int b2), .val (.ref b5_21), .unset] [])) _
            refine XS.iconst X8_21.here hx rfl (hb hby at_104) ?_
            show Steps p.tables e below (T8_21.setTop (mkF m 105 #[.val (.int p1), .val (.int p2), .val (.int p3), .val (.int p4), .val (.int (3 : Int32)), .val (.int b0), .val (.int b1), .val (.int b2), .val (.ref b5_21), .unset] [(.int (1 : Int32))])) _
            refine XS.goto X8_21.here hx rfl (pc0 := 105) (pc' := 109) rfl (hb hby at_105) (by decide) (by decide) ?_
            show Steps p.tables e below (T8_21.setTop (mkF m 109 #[.val (.int p1), .val (.int p2), .val (.int p3), .val (.int p4), .val (.int (3 : Int32)), .val (.int b0), .val (.int b1), .val (.int b2), .val (.ref b5_21), .unset] [(.int (1 : Int32))])) _
            refine XS.istore X8_21.here hx rfl (hb hby at_109) rfl (l' := #[.val (.int p1), .val (.int p2), .val (.int p3), .val (.int p4), .val (.int (3 : Int32)), .val (.int b0), .val (.int b1), .val (.int b2), .val (.ref b5_21), .val (.int (1 : Int32))]) rfl ?_
            exact kt
          · refine ⟨(0 : Int32), by simp [own_exp, hc94, hc101], fun target kt => ?_⟩
            show Steps p.tables e below (T8_21.setTop (mkF m 84 #[.val (.int p1), .val (.int p2), .val (.int p3), .val (.int p4), .val (.int (3 : Int32)), .val (.int b0), .val (.int b1), .val (.int b2), .val (.ref b5_21), .unset] [])) _
            refine XS.iload X8_21.here hx rfl (hb hby at_84) rfl ?_
            show Steps p.tables e below (T8_21.setTop (mkF m 86 #[.val (.int p1), .val (.int p2), .val (.int p3), .val (.int p4), .val (.int (3 : Int32)), .val (.int b0), .val (.int b1), .val (.int b2), .val (.ref b5_21), .unset] [(.int (3 : Int32))])) _
            refine XS.iconst X8_21.here hx rfl (hb hby at_86) ?_
            show Steps p.tables e below (T8_21.setTop (mkF m 87 #[.val (.int p1), .val (.int p2), .val (.int p3), .val (.int p4), .val (.int (3 : Int32)), .val (.int b0), .val (.int b1), .val (.int b2), .val (.ref b5_21), .unset] [(.int (2 : Int32)), (.int (3 : Int32))])) _
            refine XS.icmpNo X8_21.here hx rfl (hb hby at_87) rfl (flt hc87).1 ?_
            show Steps p.tables e below (T8_21.setTop (mkF m 90 #[.val (.int p1), .val (.int p2), .val (.int p3), .val (.int p4), .val (.int (3 : Int32)), .val (.int b0), .val (.int b1), .val (.int b2), .val (.ref b5_21), .unset] [])) _
            refine XS.iload X8_21.here hx rfl (hb hby at_90) rfl ?_
            show Steps p.tables e below (T8_21.setTop (mkF m 92 #[.val (.int p1), .val (.int p2), .val (.int p3), .val (.int p4), .val (.int (3 : Int32)), .val (.int b0), .val (.int b1), .val (.int b2), .val (.ref b5_21), .unset] [(.int b0)])) _
            refine XS.bipush X8_21.here hx rfl (hb hby at_92) ?_
            show Steps p.tables e below (T8_21.setTop (mkF m 94 #[.val (.int p1), .val (.int p2), .val (.int p3), .val (.int p4), .val (.int (3 : Int32)), .val (.int b0), .val (.int b1), .val (.int b2), .val (.ref b5_21), .unset] [(.int (31 : Int32)), (.int b0)])) _
            refine XS.icmpNo X8_21.here hx rfl (hb hby at_94) rfl (teq hc94).2 ?_
            show Steps p.tables e below (T8_21.setTop (mkF m 97 #[.val (.int p1), .val (.int p2), .val (.int p3), .val (.int p4), .val (.int (3 : Int32)), .val (.int b0), .val (.int b1), .val (.int b2), .val (.ref b5_21), .unset] [])) _
            refine XS.iload X8_21.here hx rfl (hb hby at_97) rfl ?_
            show Steps p.tables e below (T8_21.setTop (mkF m 99 #[.val (.int p1), .val (.int p2), .val (.int p3), .val (.int p4), .val (.int (3 : Int32)), .val (.int b0), .val (.int b1), .val (.int b2), .val (.ref b5_21), .unset] [(.int b1)])) _
            refine XS.bipush X8_21.here hx rfl (hb hby at_99) ?_
            show Steps p.tables e below (T8_21.setTop (mkF m 101 #[.val (.int p1), .val (.int p2), .val (.int p3), .val (.int p4), .val (.int (3 : Int32)), .val (.int b0), .val (.int b1), .val (.int b2), .val (.ref b5_21), .unset] [(.int (-117 : Int32)), (.int b1)])) _
            refine XS.icmpYes X8_21.here hx rfl (pc0 := 101) (pc' := 108) rfl (hb hby at_101) rfl (feq hc101).2 (by decide) (by decide) ?_
            show Steps p.tables e below (T8_21.setTop (mkF m 108 #[.val (.int p1), .val (.int p2), .val (.int p3), .val (.int p4), .val (.int (3 : Int32)), .val (.int b0), .val (.int b1), .val (.int b2), .val (.ref b5_21), .unset] [])) _
            refine XS.iconst X8_21.here hx rfl (hb hby at_108) ?_
            show Steps p.tables e below (T8_21.setTop (mkF m 109 #[.val (.int p1), .val (.int p2), .val (.int p3), .val (.int p4), .val (.int (3 : Int32)), .val (.int b0), .val (.int b1), .val (.int b2), .val (.ref b5_21), .unset] [(.int (0 : Int32))])) _
            refine XS.istore X8_21.here hx rfl (hb hby at_109) rfl (l' := #[.val (.int p1), .val (.int p2), .val (.int p3), .val (.int p4), .val (.int (3 : Int32)), .val (.int b0), .val (.int b1), .val (.int b2), .val (.ref b5_21), .val (.int (0 : Int32))]) rfl ?_
            exact kt
        · refine ⟨(0 : Int32), by simp [own_exp, hc94], fun target kt => ?_⟩
          show Steps p.tables e below (T8_21.setTop (mkF m 84 #[.val (.int p1), .val (.int p2), .val (.int p3), .val (.int p4), .val (.int (3 : Int32)), .val (.int b0), .val (.int b1), .val (.int b2), .val (.ref b5_21), .unset] [])) _
          refine XS.iload X8_21.here hx rfl (hb hby at_84) rfl ?_
          show Steps p.tables e below (T8_21.setTop (mkF m 86 #[.val (.int p1), .val (.int p2), .val (.int p3), .val (.int p4), .val (.int (3 : Int32)), .val (.int b0), .val (.int b1), .val (.int b2), .val (.ref b5_21), .unset] [(.int (3 : Int32))])) _
          refine XS.iconst X8_21.here hx rfl (hb hby at_86) ?_
          show Steps p.tables e below (T8_21.setTop (mkF m 87 #[.val (.int p1), .val (.int p2), .val (.int p3), .val (.int p4), .val (.int (3 : Int32)), .val (.int b0), .val (.int b1), .val (.int b2), .val (.ref b5_21), .unset] [(.int (2 : Int32)), (.int (3 : Int32))])) _
          refine XS.icmpNo X8_21.here hx rfl (hb hby at_87) rfl (flt hc87).1 ?_
          show Steps p.tables e below (T8_21.setTop (mkF m 90 #[.val (.int p1), .val (.int p2), .val (.int p3), .val (.int p4), .val (.int (3 : Int32)), .val (.int b0), .val (.int b1), .val (.int b2), .val (.ref b5_21), .unset] [])) _
          refine XS.iload X8_21.here hx rfl (hb hby at_90) rfl ?_
          show Steps p.tables e below (T8_21.setTop (mkF m 92 #[.val (.int p1), .val (.int p2), .val (.int p3), .val (.int p4), .val (.int (3 : Int32)), .val (.int b0), .val (.int b1), .val (.int b2), .val (.ref b5_21), .unset] [(.int b0)])) _
          refine XS.bipush X8_21.here hx rfl (hb hby at_92) ?_
          show Steps p.tables e below (T8_21.setTop (mkF m 94 #[.val (.int p1), .val (.int p2), .val (.int p3), .val (.int p4), .val (.int (3 : Int32)), .val (.int b0), .val (.int b1), .val (.int b2), .val (.ref b5_21), .unset] [(.int (31 : Int32)), (.int b0)])) _
          refine XS.icmpYes X8_21.here hx rfl (pc0 := 94) (pc' := 108) rfl (hb hby at_94) rfl (feq hc94).2 (by decide) (by decide) ?_
          show Steps p.tables e below (T8_21.setTop (mkF m 108 #[.val (.int p1), .val (.int p2), .val (.int p3), .val (.int p4), .val (.int (3 : Int32)), .val (.int b0), .val (.int b1), .val (.int b2), .val (.ref b5_21), .unset] [])) _
          refine XS.iconst X8_21.here hx rfl (hb hby at_108) ?_
          show Steps p.tables e below (T8_21.setTop (mkF m 109 #[.val (.int p1), .val (.int p2), .val (.int p3), .val (.int p4), .val (.int (3 : Int32)), .val (.int b0), .val (.int b1), .val (.int b2), .val (.ref b5_21), .unset] [(.int (0 : Int32))])) _
          refine XS.istore X8_21.here hx rfl (hb hby at_109) rfl (l' := #[.val (.int p1), .val (.int p2), .val (.int p3), .val (.int p4), .val (.int (3 : Int32)), .val (.int b0), .val (.int b1), .val (.int b2), .val (.ref b5_21), .val (.int (0 : Int32))]) rfl ?_
          exact kt
    have hgot : own_begins (3 : Int32) b0 b1 = ex := by rw [hex]; exact own_same _ _ _ hb0 hb1
    obtain ⟨_, _, ⟨T5_26, L5_26, k5_26, n5_26⟩, -, X5_26, ⟨Lc5_26, hQ5_26, l5_26, y5_26, z5_26⟩, st5_26⟩ := Jvm.LawKit.callS X8_21 hx (y := (⟨"com/example/libtrawl/libtrawl/GzipSource", "begins", "([B)Z"⟩ : MethodName)) hown (mvT hZ (hw _ (List.mem_of_getElem? (i := 1) rfl))) (mvT hZ (hw _ (List.mem_of_getElem? (i := 2) rfl))) (mvT hZ (hw _ (List.mem_of_getElem? (i := 3) rfl))) (mvT hZ (hw _ (List.mem_of_getElem? (i := 4) rfl))) (by decide) (backOf (W := 0) (rm1 l Z a0 hw [] b5_21 (3 : Int32) b0 b1 _ _ h8_21 n0 Zc V2 (fun _ => rfl) (fun _ => rfl)) hZ (hw _ (List.mem_of_getElem? (i := 4) rfl)) (hw _ (List.mem_of_getElem? (i := 3) rfl)) (by decide) (by decide)) (g := (mkF m 113 #[.val (.int p1), .val (.int p2), .val (.int p3), .val (.int p4), .val (.int (3 : Int32)), .val (.int b0), .val (.int b1), .val (.int b2), .val (.ref b5_21), .val (.int ex)] [(.ref b5_21)])) rfl (by rw [hml]; rfl) (argsL := [(.ref b5_21)]) (rest := []) (lenOf pd_0 rfl) rfl (by show 2 * 0 + _ ≤ _; exact Nat.le_of_eq rfl) (hb hby at_113) (fun _ _ => ⟨rfl, e8_21, (by decide : 0 + 1 + 0 ≤ _), (by decide : 0 + 3 + 0 ≤ _)⟩)
    dsimp only [Pt.U, Pt.locs, Pt.cells, Pt.slots] at X5_26 l5_26 y5_26 z5_26 st5_26 hQ5_26
    subst l5_26 y5_26 z5_26
    obtain ⟨rfl, N5q_26, gq_26⟩ := hQ5_26
    have N5_26 := Fr.app N8_21 N5q_26
    have st_26p : ∀ target, Steps p.tables e below (T5_26.setTop (mkF m 126 #[.val (.int p1), .val (.int p2), .val (.int p3), .val (.int p4), .val (.int (3 : Int32)), .val (.int b0), .val (.int b1), .val (.int b2), .val (.ref b5_21), .val (.int ex)] [(.int (1 : Int32))])) target → Steps p.tables e below (T8_21.setTop (mkF m 111 #[.val (.int p1), .val (.int p2), .val (.int p3), .val (.int p4), .val (.int (3 : Int32)), .val (.int b0), .val (.int b1), .val (.int b2), .val (.ref b5_21), .val (.int ex)] [])) target := by
      intro target kt
      show Steps p.tables e below (T8_21.setTop (mkF m 111 #[.val (.int p1), .val (.int p2), .val (.int p3), .val (.int p4), .val (.int (3 : Int32)), .val (.int b0), .val (.int b1), .val (.int b2), .val (.ref b5_21), .val (.int ex)] [])) _
      refine XS.aload X8_21.here hx rfl (hb hby at_111) rfl rfl ?_
      show Steps p.tables e below (T8_21.setTop (mkF m 113 #[.val (.int p1), .val (.int p2), .val (.int p3), .val (.int p4), .val (.int (3 : Int32)), .val (.int b0), .val (.int b1), .val (.int b2), .val (.ref b5_21), .val (.int ex)] [(.ref b5_21)])) _
      refine st5_26 _ ?_
      show Steps p.tables e below (T5_26.setTop (mkF m 116 #[.val (.int p1), .val (.int p2), .val (.int p3), .val (.int p4), .val (.int (3 : Int32)), .val (.int b0), .val (.int b1), .val (.int b2), .val (.ref b5_21), .val (.int ex)] [(.int (own_begins (3 : Int32) b0 b1))])) _
      refine XS.iload X5_26.here hx rfl (hb hby at_116) rfl ?_
      show Steps p.tables e below (T5_26.setTop (mkF m 118 #[.val (.int p1), .val (.int p2), .val (.int p3), .val (.int p4), .val (.int (3 : Int32)), .val (.int b0), .val (.int b1), .val (.int b2), .val (.ref b5_21), .val (.int ex)] [(.int ex), (.int (own_begins (3 : Int32) b0 b1))])) _
      refine XS.icmpNo X5_26.here hx rfl (hb hby at_118) rfl (teq (hgot : (own_begins (3 : Int32) b0 b1) = ex)).2 ?_
      show Steps p.tables e below (T5_26.setTop (mkF m 121 #[.val (.int p1), .val (.int p2), .val (.int p3), .val (.int p4), .val (.int (3 : Int32)), .val (.int b0), .val (.int b1), .val (.int b2), .val (.ref b5_21), .val (.int ex)] [])) _
      refine XS.iconst X5_26.here hx rfl (hb hby at_121) ?_
      show Steps p.tables e below (T5_26.setTop (mkF m 122 #[.val (.int p1), .val (.int p2), .val (.int p3), .val (.int p4), .val (.int (3 : Int32)), .val (.int b0), .val (.int b1), .val (.int b2), .val (.ref b5_21), .val (.int ex)] [(.int (1 : Int32))])) _
      refine XS.goto X5_26.here hx rfl (pc0 := 122) (pc' := 126) rfl (hb hby at_122) (by decide) (by decide) ?_
      exact kt
    obtain ⟨fs, hr, hrun, hended, hW, hsame⟩ := X5_26.leave (v := some (.int (1 : Int32))) (fun h => by rw [Bd.returns] at h; cases h)
    refine ⟨_, _, pre0 _ ?_, hrun, hended, _, _, rfl, ?_, ⟨_, rfl⟩, hW, hsame.mono (by decide) (by decide)⟩
    · show Steps p.tables e below (s₁.setTop (mkF m 0 #[.val (.int p1), .val (.int p2), .val (.int p3), .val (.int p4), .unset, .unset, .unset, .unset, .unset, .unset] [])) _
      refine st_3p _ ?_
      refine st_6p _ ?_
      refine st_21p _ ?_
      refine st_25p _ ?_
      refine st_26p _ ?_
      exact retN X5_26 hx (t := .boolean) Bd.returns (by simp) (hb hby at_126) hr
    · show Q0 Z p1 p2 p3 p4 h0 n0 _ T5_26.heap _
      exact ⟨rfl, N5_26⟩
set_option maxRecDepth 65536 in
set_option maxHeartbeats 40000000 in
theorem comes_1 {Post : Tables → Env → Array Value → State → Outcome → State → Prop} (hpost : ∀ tb e args s v u, (limb_1_1.after args s (.returned v) u = true ∧ limb_1_2.after args s (.returned v) u = true ∧ True) → FrameEnd s (.returned v) u (Jvm.fieldLocs frame_1_writes args s ++ Jvm.arrayLocs frame_1_arrays args s ++ Jvm.staticLocs frame_1_statics s) 16 128 → Post tb e args s (.returned v) u) :
    ArmFor flags0 classFile x code maxLocals ret World_1 tables_1 room_1 Calls_1 rest_1 Pre_1 Post := by
  intro l hfl _ _ p e ha hc hk s m args below hf hA hF happ hP
  obtain ⟨hcalls, hrest, hpre⟩ := hP
  obtain ⟨-, -, -, hnamed, -, -, -, hat⟩ := (Spec.applies_iff hf).mp happ
  obtain ⟨hg, hn⟩ := and_e (Cond.before_iff.mp (show (Jvm.Cond.and given_1 narrow_1).before args s = true from hpre))
  obtain ⟨g7, g8⟩ := and_e hg
  obtain ⟨g9, g10⟩ := and_e g8
  obtain ⟨g11, g12⟩ := and_e g10
  obtain ⟨g13, g14⟩ := and_e g12
  obtain ⟨w0, w1, w2, w3, rfl⟩ : ∃ w0 w1 w2 w3 : Value, args = #[w0, w1, w2, w3] := by
    have hs : args.size = 4 := by simpa [Cond.value, given_1] using g7
    obtain ⟨L⟩ := args
    match L, hs with
    | [w0, w1, w2, w3], _ => exact ⟨w0, w1, w2, w3, rfl⟩
  have hw := fun d (hd : d ∈ tables_1) => atoms_spec (ws := Jvm.Cond.code x code maxLocals ret :: tables_1) hat d (List.mem_cons_of_mem _ hd)
  have hfit : Fit s := fun {y c} hc i hi => by
    obtain ⟨ha, rfl⟩ := Array.getElem?_eq_some_iff.mp hc
    have q := List.all_eq_true.mp ((Array.all_eq_true_iff_forall_mem.mp hF) _ (Array.getElem_mem ha)) i (List.mem_range.mpr hi)
    simpa [Array.getElem?_eq_getElem hi] using q
  obtain ⟨i0, ei0⟩ := is_v g9
  obtain rfl : w0 = (.int i0) := Option.some.inj ei0
  obtain ⟨i1, ei1⟩ := is_v g11
  obtain rfl : w1 = (.int i1) := Option.some.inj ei1
  obtain ⟨i2, ei2⟩ := is_v g13
  obtain rfl : w2 = (.int i2) := Option.some.inj ei2
  obtain ⟨i3, ei3⟩ := is_v g14
  obtain rfl : w3 = (.int i3) := Option.some.inj ei3
  obtain ⟨n, o, h1, h2, h3, _, L, rfl, ⟨rfl, N⟩, hq⟩ := rm0 l s _ hw tables_1 i0 i1 i2 i3 s.heap s.heap.size (Nat.le_refl _) p e ha hc hk s m _ below hf ((Spec.applies_iff_loose hf).mp happ).1 ⟨rfl, State.Warmed39.refl s, rfl⟩ trivial
  refine ⟨n, _, h1, h2, h3, hpost _ _ _ _ _ _ ⟨Cond.after_iff.mpr rfl, Cond.after_iff.mpr (eq_i res_at (Term.int_eval (1)) rfl), trivial⟩ ⟨hq.1, hq.2.1, (hq.2.2.sift fun y hy => Or.inr (N y hy)).mono (by decide) (by decide)⟩⟩
theorem main_1_1 : Claimed_1_1 := comes_1 fun _ _ _ _ _ _ h hF => ⟨h.1, hF⟩
theorem main_1_2 : Claimed_1_2 := comes_1 fun _ _ _ _ _ _ h hF => ⟨h.2.1, hF⟩
end Jvm.Pilot.@@N@@
namespace Jvm.Pilot.@@N@@
open Jvm Jvm.ClassFile Sem Op Lib Jvm.Free Jvm.Stand Jvm.Pilot.@@N@@.Jvm.D
/-! MADE BY PROGRAM (witnessworld.py) out of the Statement's table words and the real class files: 12 classes; the members and pool entries that the words name. The judged class is class 1, her method 1. -/
namespace start1
open Jvm.ClassFile
def u (s : String) : CpInfo := .utf8 (stringToUtf16 s)
/-- a pool by its gaps: so many unusable entries, then the entry; so many at the end -/
def gap : Nat → List CpInfo → List CpInfo
  | 0, r => r
  | n + 1, r => .unusable :: gap n r
def poolList (es : List (Nat × CpInfo)) (last : Nat) : List CpInfo := es.foldr (fun e r => gap e.1 (e.2 :: r)) (gap last [])
def pool (es : List (Nat × CpInfo)) (last : Nat) : Array CpInfo := ⟨poolList es last⟩
def fileOf (pool : Array CpInfo) (this : Nat) (attrs : Array Attribute := #[]) (ms : Array MethodInfo := #[]) (fl : Nat := 33) (sup : Nat := 0) (ifs : Array Nat := #[]) (fds : Array FieldInfo := #[]) : ClassFile where
  minorVersion := 0
  majorVersion := 65
  constantPool := pool
  accessFlags := fl
  thisClass := this
  superClass := sup
  interfaces := ifs
  fields := fds
  methods := ms
  attributes := attrs
def plain (name : String) (sup : Option ClassId) : Class where
  name := name
  kind := .ordinary
  loader := none
  accessFlags := 33
  super := sup
  interfaces := #[]
  cf := none
  fields := #[]
  methods := #[]
  instanceTypes := #[]
  staticTypes := #[]
  resolved := #[]
  callSites := []
  init := .initialized
  statics := none
  mirror := none

def pool0 : Array CpInfo := pool [(5, u "<init>"), (0, u "()V"), (1, .class_ 10), (1, u "java/lang/Object")] 113

def k0m0 : Method := { name := "<init>", desc := "()V", sig := { parameters := [], returnType := none }, accessFlags := 1, code := none }
/-- java/lang/Object -/
def k0 : Class := { plain "java/lang/Object" none with
  accessFlags := 33
  interfaces := #[]
  cf := some (fileOf pool0 8 #[] #[{ accessFlags := 1, nameIndex := 5, descriptorIndex := 6, attributes := #[] }] 33 0 #[] #[])
  fields := #[]
  methods := #[k0m0]
  instanceTypes := #[]
  staticTypes := #[]
  resolved := Array.replicate 124 none
  statics := none }

def pool1 : Array CpInfo := pool [(2, .class_ 4), (1, u "java/lang/Object"), (0, u "<init>"), (0, u "()V"), (0, .methodref 8 9), (0, .class_ 10), (0, .nameAndType 11 12), (0, u "com/example/libtrawl/libtrawl/GzipSource"), (0, u "begins"), (0, u "([B)Z"), (0, .class_ 14), (0, u "com/example/libtrawl/libtrawl/GzipSourceBeginsPinLaw"), (2, u "law"), (0, u "(IIII)Z")] 5

def k1m0 : Method := { name := "<init>", desc := "()V", sig := { parameters := [], returnType := none }, accessFlags := 2, code := none }
def k1c1 : Code := { maxStack := 3, maxLocals := 10, code := code, exceptionTable := #[], attributes := #[] }
def k1m1 : Method := { name := "law", desc := "(IIII)Z", sig := { parameters := [.int, .int, .int, .int], returnType := some .boolean }, accessFlags := 9, code := some k1c1 }
/-- com/example/libtrawl/libtrawl/GzipSourceBeginsPinLaw -/
def k1 : Class := { plain "com/example/libtrawl/libtrawl/GzipSourceBeginsPinLaw" (some 0) with
  accessFlags := 49
  interfaces := #[]
  cf := some (fileOf pool1 13 #[] #[{ accessFlags := 2, nameIndex := 5, descriptorIndex := 6, attributes := #[] }, { accessFlags := 9, nameIndex := 17, descriptorIndex := 18, attributes := #[] }] 49 2 #[] #[])
  fields := #[]
  methods := #[k1m0, k1m1]
  instanceTypes := #[]
  staticTypes := #[]
  resolved := Array.replicate 24 none
  statics := none }

def pool2 : Array CpInfo := pool [(1, .class_ 2), (0, u "java/lang/AutoCloseable"), (0, .class_ 4), (0, u "java/lang/Object")] 7

/-- java/lang/AutoCloseable -/
def k2 : Class := { plain "java/lang/AutoCloseable" (some 0) with
  accessFlags := 1537
  interfaces := #[]
  cf := some (fileOf pool2 1 #[] #[] 1537 3 #[] #[])
  fields := #[]
  methods := #[]
  instanceTypes := #[]
  staticTypes := #[]
  resolved := Array.replicate 12 none
  statics := none }

def pool3 : Array CpInfo := pool [(1, .class_ 2), (0, u "java/io/Closeable"), (0, .class_ 4), (0, u "java/lang/Object"), (0, .class_ 6), (0, u "java/lang/AutoCloseable")] 7

/-- java/io/Closeable -/
def k3 : Class := { plain "java/io/Closeable" (some 0) with
  accessFlags := 1537
  interfaces := #[2]
  cf := some (fileOf pool3 1 #[] #[] 1537 3 #[5] #[])
  fields := #[]
  methods := #[]
  instanceTypes := #[]
  staticTypes := #[]
  resolved := Array.replicate 14 none
  statics := none }

def pool4 : Array CpInfo := pool [(2, .class_ 4), (1, u "java/lang/Object"), (0, u "<init>"), (0, u "()V"), (22, .class_ 30), (0, u "com/example/libtrawl/libtrawl/Source$Plain"), (9, .class_ 42), (1, u "com/example/libtrawl/libtrawl/Source"), (89, .class_ 133), (0, u "java/io/Closeable")] 25

def k4m0 : Method := { name := "<init>", desc := "()V", sig := { parameters := [], returnType := none }, accessFlags := 0, code := none }
/-- com/example/libtrawl/libtrawl/Source -/
def k4 : Class := { plain "com/example/libtrawl/libtrawl/Source" (some 0) with
  accessFlags := 1056
  interfaces := #[3]
  cf := some (fileOf pool4 40 #[.nestMembers #[29]] #[{ accessFlags := 0, nameIndex := 5, descriptorIndex := 6, attributes := #[] }] 1056 2 #[132] #[])
  fields := #[]
  methods := #[k4m0]
  instanceTypes := #[]
  staticTypes := #[]
  resolved := Array.replicate 159 none
  statics := none }

def pool5 : Array CpInfo := pool [(6, .class_ 8), (1, u "com/example/libtrawl/libtrawl/GzipSource"), (3, .class_ 14), (1, u "com/example/libtrawl/libtrawl/Source"), (4, u "input"), (0, u "[B"), (7, u "inflater"), (0, u "Ljava/util/zip/Inflater;"), (5, u "crc"), (0, u "Ljava/util/zip/CRC32;"), (2, u "starts"), (0, u "[J"), (2, u "offsets"), (2, u "in"), (0, u "Ljava/io/InputStream;"), (2, u "end"), (0, u "J"), (2, u "prefetch"), (0, u "Lcom/example/libtrawl/libtrawl/GzipPrefetch;"), (2, u "inputOffset"), (2, u "streamOffset"), (9, u "rescans"), (0, u "Lcom/example/libtrawl/libtrawl/Rescans;"), (29, u "inMember"), (0, u "Z"), (2, u "readingInflated"), (8, u "count"), (0, u "I"), (21, u "skipped"), (0, u "Lcom/example/libtrawl/libtrawl/WarcFormatException;"), (2, u "lost"), (5, u "inputPos"), (2, u "memberOffset"), (2, u "position"), (2, u "memberStart"), (54, u "inputLimit"), (6, u "memberSize"), (33, u "inflated"), (2, u "Lcom/example/libtrawl/libtrawl/InflatedMembers;"), (2, u "inflatedIndex"), (11, u "inflatedPos"), (68, u "ID1"), (2, u "ID2"), (1, u "DEFLATE"), (1, u "FHCRC"), (1, u "FEXTRA"), (1, u "FNAME"), (0, u "FCOMMENT"), (1, u "RESERVED_FLAGS"), (1, u "BUFFER_BYTES"), (0, u "RESCAN_BYTES"), (0, u "CUT_SHORT"), (0, u "Ljava/lang/String;"), (4, u "begins"), (0, u "([B)Z")] 29

def k5c0 : Code := { maxStack := 2, maxLocals := 1, code := prog_12_method_4_code, exceptionTable := #[], attributes := #[] }
def k5m0 : Method := { name := "begins", desc := "([B)Z", sig := { parameters := [(.array .byte)], returnType := some .boolean }, accessFlags := 8, code := some k5c0 }
/-- com/example/libtrawl/libtrawl/GzipSource -/
def k5 : Class := { plain "com/example/libtrawl/libtrawl/GzipSource" (some 4) with
  accessFlags := 48
  interfaces := #[]
  cf := some (fileOf pool5 6 #[] #[{ accessFlags := 8, nameIndex := 364, descriptorIndex := 365, attributes := #[] }] 48 12 #[] #[{ accessFlags := 26, nameIndex := 340, descriptorIndex := 116, attributes := #[] }, { accessFlags := 26, nameIndex := 343, descriptorIndex := 116, attributes := #[] }, { accessFlags := 26, nameIndex := 345, descriptorIndex := 116, attributes := #[] }, { accessFlags := 26, nameIndex := 347, descriptorIndex := 116, attributes := #[] }, { accessFlags := 26, nameIndex := 349, descriptorIndex := 116, attributes := #[] }, { accessFlags := 26, nameIndex := 351, descriptorIndex := 116, attributes := #[] }, { accessFlags := 26, nameIndex := 352, descriptorIndex := 116, attributes := #[] }, { accessFlags := 26, nameIndex := 354, descriptorIndex := 116, attributes := #[] }, { accessFlags := 26, nameIndex := 356, descriptorIndex := 116, attributes := #[] }, { accessFlags := 26, nameIndex := 357, descriptorIndex := 116, attributes := #[] }, { accessFlags := 26, nameIndex := 358, descriptorIndex := 359, attributes := #[] }, { accessFlags := 18, nameIndex := 46, descriptorIndex := 47, attributes := #[] }, { accessFlags := 2, nameIndex := 19, descriptorIndex := 20, attributes := #[] }, { accessFlags := 2, nameIndex := 148, descriptorIndex := 116, attributes := #[] }, { accessFlags := 2, nameIndex := 212, descriptorIndex := 116, attributes := #[] }, { accessFlags := 2, nameIndex := 58, descriptorIndex := 51, attributes := #[] }, { accessFlags := 2, nameIndex := 61, descriptorIndex := 51, attributes := #[] }, { accessFlags := 18, nameIndex := 50, descriptorIndex := 51, attributes := #[] }, { accessFlags := 18, nameIndex := 28, descriptorIndex := 29, attributes := #[] }, { accessFlags := 18, nameIndex := 35, descriptorIndex := 36, attributes := #[] }, { accessFlags := 2, nameIndex := 102, descriptorIndex := 103, attributes := #[] }, { accessFlags := 2, nameIndex := 142, descriptorIndex := 103, attributes := #[] }, { accessFlags := 2, nameIndex := 138, descriptorIndex := 139, attributes := #[] }, { accessFlags := 18, nameIndex := 71, descriptorIndex := 72, attributes := #[] }, { accessFlags := 2, nameIndex := 151, descriptorIndex := 51, attributes := #[] }, { accessFlags := 2, nameIndex := 157, descriptorIndex := 51, attributes := #[] }, { accessFlags := 2, nameIndex := 219, descriptorIndex := 51, attributes := #[] }, { accessFlags := 2, nameIndex := 154, descriptorIndex := 51, attributes := #[] }, { accessFlags := 2, nameIndex := 39, descriptorIndex := 40, attributes := #[] }, { accessFlags := 2, nameIndex := 43, descriptorIndex := 40, attributes := #[] }, { accessFlags := 2, nameIndex := 115, descriptorIndex := 116, attributes := #[] }, { accessFlags := 18, nameIndex := 54, descriptorIndex := 55, attributes := #[] }, { accessFlags := 2, nameIndex := 253, descriptorIndex := 256, attributes := #[] }, { accessFlags := 2, nameIndex := 259, descriptorIndex := 116, attributes := #[] }, { accessFlags := 2, nameIndex := 106, descriptorIndex := 103, attributes := #[] }, { accessFlags := 2, nameIndex := 271, descriptorIndex := 116, attributes := #[] }])
  fields := #[{ name := "ID1", type := .int, accessFlags := 26, slot := 0, constantValue := 0 }, { name := "ID2", type := .int, accessFlags := 26, slot := 1, constantValue := 0 }, { name := "DEFLATE", type := .int, accessFlags := 26, slot := 2, constantValue := 0 }, { name := "FHCRC", type := .int, accessFlags := 26, slot := 3, constantValue := 0 }, { name := "FEXTRA", type := .int, accessFlags := 26, slot := 4, constantValue := 0 }, { name := "FNAME", type := .int, accessFlags := 26, slot := 5, constantValue := 0 }, { name := "FCOMMENT", type := .int, accessFlags := 26, slot := 6, constantValue := 0 }, { name := "RESERVED_FLAGS", type := .int, accessFlags := 26, slot := 7, constantValue := 0 }, { name := "BUFFER_BYTES", type := .int, accessFlags := 26, slot := 8, constantValue := 0 }, { name := "RESCAN_BYTES", type := .int, accessFlags := 26, slot := 9, constantValue := 0 }, { name := "CUT_SHORT", type := (.object "java/lang/String"), accessFlags := 26, slot := 10, constantValue := 0 }, { name := "in", type := (.object "java/io/InputStream"), accessFlags := 18, slot := 0, constantValue := 0 }, { name := "input", type := (.array .byte), accessFlags := 2, slot := 1, constantValue := 0 }, { name := "inputPos", type := .int, accessFlags := 2, slot := 2, constantValue := 0 }, { name := "inputLimit", type := .int, accessFlags := 2, slot := 3, constantValue := 0 }, { name := "inputOffset", type := .long, accessFlags := 2, slot := 4, constantValue := 0 }, { name := "streamOffset", type := .long, accessFlags := 2, slot := 5, constantValue := 0 }, { name := "end", type := .long, accessFlags := 18, slot := 6, constantValue := 0 }, { name := "inflater", type := (.object "java/util/zip/Inflater"), accessFlags := 18, slot := 7, constantValue := 0 }, { name := "crc", type := (.object "java/util/zip/CRC32"), accessFlags := 18, slot := 8, constantValue := 0 }, { name := "inMember", type := .boolean, accessFlags := 2, slot := 9, constantValue := 0 }, { name := "lost", type := .boolean, accessFlags := 2, slot := 10, constantValue := 0 }, { name := "skipped", type := (.object "com/example/libtrawl/libtrawl/WarcFormatException"), accessFlags := 2, slot := 11, constantValue := 0 }, { name := "rescans", type := (.object "com/example/libtrawl/libtrawl/Rescans"), accessFlags := 18, slot := 12, constantValue := 0 }, { name := "memberOffset", type := .long, accessFlags := 2, slot := 13, constantValue := 0 }, { name := "memberStart", type := .long, accessFlags := 2, slot := 14, constantValue := 0 }, { name := "memberSize", type := .long, accessFlags := 2, slot := 15, constantValue := 0 }, { name := "position", type := .long, accessFlags := 2, slot := 16, constantValue := 0 }, { name := "starts", type := (.array .long), accessFlags := 2, slot := 17, constantValue := 0 }, { name := "offsets", type := (.array .long), accessFlags := 2, slot := 18, constantValue := 0 }, { name := "count", type := .int, accessFlags := 2, slot := 19, constantValue := 0 }, { name := "prefetch", type := (.object "com/example/libtrawl/libtrawl/GzipPrefetch"), accessFlags := 18, slot := 20, constantValue := 0 }, { name := "inflated", type := (.object "com/example/libtrawl/libtrawl/InflatedMembers"), accessFlags := 2, slot := 21, constantValue := 0 }, { name := "inflatedIndex", type := .int, accessFlags := 2, slot := 22, constantValue := 0 }, { name := "readingInflated", type := .boolean, accessFlags := 2, slot := 23, constantValue := 0 }, { name := "inflatedPos", type := .int, accessFlags := 2, slot := 24, constantValue := 0 }]
  methods := #[k5m0]
  instanceTypes := #[(.object "java/io/InputStream"), (.array .byte), .int, .int, .long, .long, .long, (.object "java/util/zip/Inflater"), (.object "java/util/zip/CRC32"), .boolean, .boolean, (.object "com/example/libtrawl/libtrawl/WarcFormatException"), (.object "com/example/libtrawl/libtrawl/Rescans"), .long, .long, .long, .long, (.array .long), (.array .long), .int, (.object "com/example/libtrawl/libtrawl/GzipPrefetch"), (.object "com/example/libtrawl/libtrawl/InflatedMembers"), .int, .boolean, .int]
  staticTypes := #[.int, .int, .int, .int, .int, .int, .int, .int, .int, .int, (.object "java/lang/String")]
  resolved := Array.replicate 395 none
  statics := none }

def pool6 : Array CpInfo := pool [(1, u "java/lang/Cloneable"), (0, .class_ 1), (0, u "java/lang/Object"), (0, .class_ 3)] 3

/-- java/lang/Cloneable -/
def k6 : Class := { plain "java/lang/Cloneable" (some 0) with
  accessFlags := 1537
  interfaces := #[]
  cf := some (fileOf pool6 2 #[] #[] 1537 4 #[] #[])
  fields := #[]
  methods := #[]
  instanceTypes := #[]
  staticTypes := #[]
  resolved := Array.replicate 8 none
  statics := none }

def pool7 : Array CpInfo := pool [(1, u "java/io/Serializable"), (0, .class_ 1), (0, u "java/lang/Object"), (0, .class_ 3)] 3

/-- java/io/Serializable -/
def k7 : Class := { plain "java/io/Serializable" (some 0) with
  accessFlags := 1537
  interfaces := #[]
  cf := some (fileOf pool7 2 #[] #[] 1537 4 #[] #[])
  fields := #[]
  methods := #[]
  instanceTypes := #[]
  staticTypes := #[]
  resolved := Array.replicate 8 none
  statics := none }

/-- the primitive byte -/
def k8 : Class := { plain "byte" none with kind := .primitive 'B', accessFlags := 0x411 }
/-- [B -/
def k9 : Class := { plain "[B" (some 0) with kind := .array 8 .byte, interfaces := #[6, 7], accessFlags := 1041 }

/-- the primitive int -/
def k10 : Class := { plain "int" none with kind := .primitive 'I', accessFlags := 0x411 }
/-- [I -/
def k11 : Class := { plain "[I" (some 0) with kind := .array 10 .int, interfaces := #[6, 7], accessFlags := 1041 }

def heap : Heap := #[]
def classes : Array Class := #[k0, k1, k2, k3, k4, k5, k6, k7, k8, k9, k10, k11]
def interned : List (Array UInt16 × Addr) := []
def slotsUsed : Nat := 0
def theMethod : MethodId := ⟨1, 1⟩
def args0 : Array Value := #[.int 2, .int 5, .int 7, .int 9]
def aboutOver (below : List Frame) : State where
  vm := { classes := classes, interned := interned.toArray }
  heap := heap
  slotsUsed := slotsUsed
  threads := #[{ frames := .invoking theMethod args0 :: below }]
def below0 : List Frame := [.native { method := ⟨0, 0⟩, args := #[] }]
def about1 : State := aboutOver below0
def p0 : Program := .bare "" "" ""
def e0 : Env := launch0.env 0 0 0
theorem w_frames : about1.frames = Frame.invoking theMethod args0 :: below0 := rfl
set_option maxRecDepth 65536 in
theorem w_args : argsFit about1.vm theMethod args0 = true := by decide +kernel
set_option maxRecDepth 65536 in
theorem w_heap : heapFits about1 = true := by decide +kernel
set_option maxRecDepth 65536 in
theorem w_runnable : about1.curStatus? = some .runnable := by decide +kernel
set_option maxRecDepth 65536 in
theorem w_alone : about1.alone = true := by decide +kernel
set_option maxRecDepth 65536 in
theorem w_named : about1.methodNamed? x = some theMethod := by decide +kernel
set_option maxRecDepth 65536 in
theorem w_hears : about1.hears theMethod below0 = true := by decide +kernel
set_option maxRecDepth 65536 in
theorem w_ripe : about1.ripe theMethod args0 below0 = true := by decide +kernel
theorem w_running : about1.status = .running := rfl
set_option maxRecDepth 65536 in
theorem w_room : about1.hasRoom e0.platform room_1 = true :=
  launch0.hasRoom_least _ room_1 (by decide +kernel) (by decide +kernel) (by decide +kernel) (by decide +kernel) (by decide +kernel) (by decide +kernel)
theorem allAtoms_all (ts : List Jvm.Cond) (a : Array Jvm.Value) (st : Jvm.State) : (allAtoms ts).before a st = ts.all (fun c => c.before a st) := by
  induction ts with
  | nil => rfl
  | cons c t ih =>
    show (Jvm.Cond.and c (allAtoms t)).before a st = _
    rw [Jvm.Cond.before_and, ih, List.all_cons]
def words1 : List Jvm.Cond := Jvm.Cond.code x code maxLocals ret :: tables_1
/-- a 'code' word, met by the world's own term for the bytes: nothing is compared byte by byte -/
theorem code_word {y : MethodName} {bytes : ByteArray} {mx : Nat} {rt : Option FieldType} {a : Array Value} {s : State} {m : MethodId} {meth : Method} {c : Code} (h1 : s.methodNamed? y = some m) (h2 : s.vm.method? m = some meth) (h3 : meth.code = some c) (h4 : c.code = bytes)
    (h5 : (c.maxLocals == mx && c.exceptionTable.isEmpty && decide (c.maxStack ≤ mostOperands) && decide (meth.sig.returnType = rt) && !meth.locks && decide (parseMethodDescriptor y.desc = some meth.sig)) = true) : (Jvm.Cond.code y bytes mx rt).before a s = true := by
  simp only [Bool.and_eq_true, beq_iff_eq, Bool.not_eq_true', decide_eq_true_eq] at h5
  obtain ⟨⟨⟨⟨⟨g1, g2⟩, g3⟩, g4⟩, g5⟩, g6⟩ := h5
  simp [Cond.before, Cond.holds, Cond.value, h1, h2, h3, h4, g1, g2, g3, g4, g5, g6]
def isCode : Jvm.Cond → Bool
  | .code _ _ _ _ => true
  | _ => false
theorem all_split {L : List Jvm.Cond} {P : Jvm.Cond → Bool} (h1 : L.all (fun c => isCode c || P c) = true) (h2 : ∀ c ∈ L.filter isCode, P c = true) : L.all P = true := by
  refine List.all_eq_true.mpr fun c hc => ?_
  have h := List.all_eq_true.mp h1 c hc
  rcases Bool.eq_false_or_eq_true (isCode c) with hi | hi
  · exact h2 c (List.mem_filter.mpr ⟨hc, hi⟩)
  · simpa [hi] using h
set_option maxRecDepth 65536 in
theorem w_c0 : (Jvm.Cond.code x code maxLocals ret).before args0 about1 = true := code_word (m := ⟨1, 1⟩) (meth := k1m1) (c := k1c1) (by decide +kernel) rfl rfl rfl (by decide +kernel)
set_option maxRecDepth 65536 in
theorem w_c1 : (Jvm.Cond.code ({ cls := "com/example/libtrawl/libtrawl/GzipSource", name := "begins", desc := "([B)Z" } : Jvm.MethodName) prog_12_method_4_code (1 : Nat) (Option.some Jvm.ClassFile.FieldType.boolean)).before args0 about1 = true := code_word (m := ⟨5, 0⟩) (meth := k5m0) (c := k5c0) (by decide +kernel) rfl rfl rfl (by decide +kernel)
def codes1 : List Jvm.Cond := [Jvm.Cond.code x code maxLocals ret, Jvm.Cond.code ({ cls := "com/example/libtrawl/libtrawl/GzipSource", name := "begins", desc := "([B)Z" } : Jvm.MethodName) prog_12_method_4_code (1 : Nat) (Option.some Jvm.ClassFile.FieldType.boolean)]
set_option maxRecDepth 65536 in
theorem codes_eq : words1.filter isCode = codes1 := rfl
theorem w_codes : ∀ c ∈ words1.filter isCode, c.before args0 about1 = true := by
  rw [codes_eq]
  intro c hc
  simp only [codes1, List.mem_cons, List.not_mem_nil, or_false] at hc
  rcases hc with rfl | rfl
  · exact w_c0
  · exact w_c1
set_option maxRecDepth 65536 in
theorem w_t1 : words1.all (fun c => isCode c || c.before args0 about1) = true := by decide +kernel
theorem w_tables : (allAtoms (Jvm.Cond.code x code maxLocals ret :: tables_1)).before args0 about1 = true := by
  rw [allAtoms_all]
  show words1.all (fun c => c.before args0 about1) = true
  refine all_split ?_ w_codes
  rw [w_t1]
set_option maxRecDepth 65536 in
theorem w_case : (Jvm.Cond.and given_1 narrow_1).before args0 about1 = true := by decide +kernel
theorem w_applies : (headSpec (Jvm.Cond.code x code maxLocals ret :: tables_1) room_1).applies x e0.platform about1 = true :=
  (Spec.applies_iff w_frames).mpr ⟨w_running, w_runnable, w_alone, w_named, w_hears, w_ripe, w_room, w_tables⟩
theorem atStart : AtStart classFile x code maxLocals ret World_1 tables_1 room_1 Calls_1 rest_1 Pre_1 launch0 p0 e0 about1 theMethod args0 below0 :=
  ⟨lists_1, trivial, launch0.admits_env _ _ _, launch0.least_env, fairChoices_fair.cas, fairChoices_fair.clock, w_frames, w_args, w_heap, w_applies, trivial, trivial, w_case⟩
end start1
theorem witness_1 : WitnessClaimed_1 := ⟨start1.p0, start1.e0, start1.about1, start1.theMethod, start1.args0, start1.below0, start1.atStart⟩
end Jvm.Pilot.@@N@@
