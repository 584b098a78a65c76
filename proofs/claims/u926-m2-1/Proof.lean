import JvmDerived
import JvmDerived.Pilot.@@N@@Statement
import JvmDerived.Pilot.@@N@@Code
set_option linter.unusedVariables false
set_option linter.unusedSimpArgs false
namespace Jvm.RoadKit
open Sem ClassFile Op Lib Jvm.Stand Jvm.Free Jvm.LawKit
section New
variable {p : Program} {l : Launch} {e : Env} {R : Room} {s : State} {m : MethodId} {args : Array Value} {below : List Frame} {meth : Method} {c : Code} {T : State} {locs : List Loc} {cells slots : Nat}
theorem retI (X : Stand p l e R s m args below meth c T locs cells slots) (hx : p.tables.exec = Jvm.exec) {pc : Nat} {Ls : Array Slot} {z : Int32} {rest : List Value} (hret : meth.sig.returnType = some .int) (hd : decode c.code pc = .ok (.ireturn, 1)) {fs : List Frame}
    (hl : ∀ (f : JFrame) (acts : List Action), f.method = m → f.locked = none → f.entered = [] → (doReturn e (T.setTop f) acts (some (.int z))).1 = T.setFrames fs) : Steps p.tables e below (T.setTop (mkF m pc Ls (.int z :: rest))) (T.setFrames fs) := by
  have hm' : T.vm.method? m = some meth := X.method'
  have hn : narrow .int (.int z) = .int z := rfl
  show Steps p.tables e below (T.setTop { method := m, pc := pc, locals := Ls, stack := _ :: rest, locked := none }) _
  jvm_step X.here [X.here.top, hx, hd, hm', hret, hn]
  first | (intro acts; rw [hl _ acts rfl rfl rfl]) | rw [hl _ _ rfl rfl rfl]
  exact Steps.refl _
end New
end Jvm.RoadKit
namespace Jvm.Pilot.@@N@@
open Jvm Jvm.ClassFile Sem Op Lib Jvm.Free Jvm.Stand Jvm.LawKit Jvm.RoadKit Bundle Jvm.Pilot.@@N@@.Jvm.D

def own_sh (x : Int64) (k : Int32) : Int64 := (x.toUInt64 >>> (k &&& 0x3f).toInt64.toUInt64).toInt64
theorem own_sh_bv (x : Int64) (k : Int32) (n : Nat) (h : ((k &&& 0x3f).toInt64.toUInt64).toBitVec % 64 = BitVec.ofNat 64 n) (hn : n < 64) : (own_sh x k).toBitVec = x.toBitVec >>> n := by
  show x.toBitVec >>> (((k &&& 0x3f).toInt64.toUInt64).toBitVec % 64) = _
  rw [h]
  show x.toBitVec >>> (BitVec.ofNat 64 n).toNat = _
  rw [BitVec.toNat_ofNat, Nat.mod_eq_of_lt (by omega)]
/-- a shift by at least half the width, undone -/
theorem own_un2 (x : Int64) (k : Int32) (n : Nat) (h : ((k &&& 0x3f).toInt64.toUInt64).toBitVec % 64 = BitVec.ofNat 64 n) (hn : n < 64) (h2 : 64 ≤ n + n) : (x ^^^ own_sh x k) ^^^ own_sh (x ^^^ own_sh x k) k = x := by
  apply Int64.toBitVec.inj
  show (x.toBitVec ^^^ (own_sh x k).toBitVec) ^^^ (own_sh (x ^^^ own_sh x k) k).toBitVec = x.toBitVec
  rw [own_sh_bv _ _ n h hn, own_sh_bv _ _ n h hn]
  show (x.toBitVec ^^^ x.toBitVec >>> n) ^^^ (x.toBitVec ^^^ (own_sh x k).toBitVec) >>> n = x.toBitVec
  rw [own_sh_bv _ _ n h hn]
  generalize x.toBitVec = b
  apply BitVec.eq_of_getLsbD_eq
  intro i hi
  have : b.getLsbD (n + (n + i)) = false := BitVec.getLsbD_of_ge _ _ (by omega)
  simp [this]
/-- a shift by at least a third of the width, undone -/
theorem own_un3 (x : Int64) (k k2 : Int32) (n : Nat) (h : ((k &&& 0x3f).toInt64.toUInt64).toBitVec % 64 = BitVec.ofNat 64 n) (h' : ((k2 &&& 0x3f).toInt64.toUInt64).toBitVec % 64 = BitVec.ofNat 64 (n + n)) (hn : n + n < 64) (h2 : 64 ≤ n + n + n) : ((x ^^^ own_sh x k) ^^^ own_sh (x ^^^ own_sh x k) k) ^^^ own_sh (x ^^^ own_sh x k) k2 = x := by
  apply Int64.toBitVec.inj
  show ((x.toBitVec ^^^ (own_sh x k).toBitVec) ^^^ (own_sh (x ^^^ own_sh x k) k).toBitVec) ^^^ (own_sh (x ^^^ own_sh x k) k2).toBitVec = x.toBitVec
  rw [own_sh_bv _ _ n h (by omega), own_sh_bv _ _ n h (by omega), own_sh_bv _ _ (n + n) h' hn]
  show ((x.toBitVec ^^^ x.toBitVec >>> n) ^^^ (x.toBitVec ^^^ (own_sh x k).toBitVec) >>> n) ^^^ (x.toBitVec ^^^ (own_sh x k).toBitVec) >>> (n + n) = x.toBitVec
  rw [own_sh_bv _ _ n h (by omega)]
  generalize x.toBitVec = b
  apply BitVec.eq_of_getLsbD_eq
  intro i hi
  have : b.getLsbD (n + (n + (n + i))) = false := BitVec.getLsbD_of_ge _ _ (by omega)
  have e1 : n + n + i = n + (n + i) := by omega
  have e2 : n + (n + n + i) = n + (n + (n + i)) := by omega
  simp [this, e1, e2]
theorem own_nu3 (x : Int64) (k k2 : Int32) (n : Nat) (h : ((k &&& 0x3f).toInt64.toUInt64).toBitVec % 64 = BitVec.ofNat 64 n) (h' : ((k2 &&& 0x3f).toInt64.toUInt64).toBitVec % 64 = BitVec.ofNat 64 (n + n)) (hn : n + n < 64) (h2 : 64 ≤ n + n + n) : ((x ^^^ own_sh x k) ^^^ own_sh x k2) ^^^ own_sh ((x ^^^ own_sh x k) ^^^ own_sh x k2) k = x := by
  apply Int64.toBitVec.inj
  show ((x.toBitVec ^^^ (own_sh x k).toBitVec) ^^^ (own_sh x k2).toBitVec) ^^^ (own_sh ((x ^^^ own_sh x k) ^^^ own_sh x k2) k).toBitVec = x.toBitVec
  rw [own_sh_bv _ _ n h (by omega), own_sh_bv _ _ n h (by omega), own_sh_bv _ _ (n + n) h' hn]
  show ((x.toBitVec ^^^ x.toBitVec >>> n) ^^^ x.toBitVec >>> (n + n)) ^^^ (x.toBitVec ^^^ (own_sh x k).toBitVec ^^^ (own_sh x k2).toBitVec) >>> n = x.toBitVec
  rw [own_sh_bv _ _ n h (by omega), own_sh_bv _ _ (n + n) h' hn]
  generalize x.toBitVec = b
  apply BitVec.eq_of_getLsbD_eq
  intro i hi
  have : b.getLsbD (n + (n + (n + i))) = false := BitVec.getLsbD_of_ge _ _ (by omega)
  have e1 : n + n + i = n + (n + i) := by omega
  have e2 : n + n + (n + i) = n + (n + (n + i)) := by omega
  simp [this, e1, e2]
def own_st (p x : Int64) : Int64 := x * ((2 : Int64) - (p * x))
def own_inv (p : Int64) : Int64 := own_st p (own_st p (own_st p (own_st p (own_st p p))))
theorem own_lc {a b : Int64} (h : a = b) : lcmpW a b = (0 : Int32) := (lw_eq a b).mpr h

def own_a1 (q : Int64) : Int64 := (q ^^^ own_sh q (33 : Int32)) * (-4417276706812531889 : Int64)
def own_a2 (q : Int64) : Int64 := (q ^^^ own_sh q (29 : Int32)) * (1609587929392839161 : Int64)
def own_a3 (q : Int64) : Int64 := q ^^^ own_sh q (32 : Int32)
def own_aval (q : Int64) : Int64 := own_a3 (own_a2 (own_a1 q))
def own_u1 (q : Int64) : Int64 := own_a3 q * own_inv (1609587929392839161 : Int64)
def own_u2 (q : Int64) : Int64 := ((q ^^^ own_sh q (29 : Int32)) ^^^ own_sh q (58 : Int32)) * own_inv (-4417276706812531889 : Int64)
def own_u3 (q : Int64) : Int64 := q ^^^ own_sh q (33 : Int32)
def own_unaval (q : Int64) : Int64 := own_u3 (own_u2 (own_u1 q))
theorem own_i3 : (1609587929392839161 : Int64) * own_inv (1609587929392839161 : Int64) = 1 := by decide +kernel
theorem own_i2 : (-4417276706812531889 : Int64) * own_inv (-4417276706812531889 : Int64) = 1 := by decide +kernel
theorem own_i3' : own_inv (1609587929392839161 : Int64) * (1609587929392839161 : Int64) = 1 := by decide +kernel
theorem own_i2' : own_inv (-4417276706812531889 : Int64) * (-4417276706812531889 : Int64) = 1 := by decide +kernel
theorem own_fwd (q : Int64) : own_unaval (own_aval q) = q := by
  unfold own_unaval own_aval own_u1 own_u2 own_u3 own_a3 own_a2 own_a1
  rw [own_un2 _ 32 32 (by decide) (by decide) (by decide), Int64.mul_assoc, own_i3, Int64.mul_one, own_un3 _ 29 58 29 (by decide) (by decide) (by decide) (by decide), Int64.mul_assoc, own_i2, Int64.mul_one, own_un2 _ 33 33 (by decide) (by decide) (by decide)]
theorem own_bwd (q : Int64) : own_aval (own_unaval q) = q := by
  unfold own_unaval own_aval own_u1 own_u2 own_u3 own_a3 own_a2 own_a1
  rw [own_un2 _ 33 33 (by decide) (by decide) (by decide), Int64.mul_assoc, own_i2', Int64.mul_one, own_nu3 _ 29 58 29 (by decide) (by decide) (by decide) (by decide), Int64.mul_assoc, own_i3', Int64.mul_one, own_un2 _ 32 32 (by decide) (by decide) (by decide)]
theorem d3_0 : decode method_2_code 0 = .ok (.lload_n 0, 1) := by decide +kernel
theorem d3_1 : decode method_2_code 1 = .ok (.lstore_n 2, 1) := by decide +kernel
theorem d3_2 : decode method_2_code 2 = .ok (.lload_n 2, 1) := by decide +kernel
theorem d3_3 : decode method_2_code 3 = .ok (.ldc2_w 7, 3) := by decide +kernel
theorem d3_6 : decode method_2_code 6 = .ok (.lload_n 0, 1) := by decide +kernel
theorem d3_7 : decode method_2_code 7 = .ok (.lload_n 2, 1) := by decide +kernel
theorem d3_8 : decode method_2_code 8 = .ok (.lmul, 1) := by decide +kernel
theorem d3_9 : decode method_2_code 9 = .ok (.lsub, 1) := by decide +kernel
theorem d3_10 : decode method_2_code 10 = .ok (.lmul, 1) := by decide +kernel
theorem d3_11 : decode method_2_code 11 = .ok (.lstore_n 2, 1) := by decide +kernel
theorem d3_12 : decode method_2_code 12 = .ok (.lload_n 2, 1) := by decide +kernel
theorem d3_13 : decode method_2_code 13 = .ok (.ldc2_w 7, 3) := by decide +kernel
theorem d3_16 : decode method_2_code 16 = .ok (.lload_n 0, 1) := by decide +kernel
theorem d3_17 : decode method_2_code 17 = .ok (.lload_n 2, 1) := by decide +kernel
theorem d3_18 : decode method_2_code 18 = .ok (.lmul, 1) := by decide +kernel
theorem d3_19 : decode method_2_code 19 = .ok (.lsub, 1) := by decide +kernel
theorem d3_20 : decode method_2_code 20 = .ok (.lmul, 1) := by decide +kernel
theorem d3_21 : decode method_2_code 21 = .ok (.lstore_n 2, 1) := by decide +kernel
theorem d3_22 : decode method_2_code 22 = .ok (.lload_n 2, 1) := by decide +kernel
theorem d3_23 : decode method_2_code 23 = .ok (.ldc2_w 7, 3) := by decide +kernel
theorem d3_26 : decode method_2_code 26 = .ok (.lload_n 0, 1) := by decide +kernel
theorem d3_27 : decode method_2_code 27 = .ok (.lload_n 2, 1) := by decide +kernel
theorem d3_28 : decode method_2_code 28 = .ok (.lmul, 1) := by decide +kernel
theorem d3_29 : decode method_2_code 29 = .ok (.lsub, 1) := by decide +kernel
theorem d3_30 : decode method_2_code 30 = .ok (.lmul, 1) := by decide +kernel
theorem d3_31 : decode method_2_code 31 = .ok (.lstore_n 2, 1) := by decide +kernel
theorem d3_32 : decode method_2_code 32 = .ok (.lload_n 2, 1) := by decide +kernel
theorem d3_33 : decode method_2_code 33 = .ok (.ldc2_w 7, 3) := by decide +kernel
theorem d3_36 : decode method_2_code 36 = .ok (.lload_n 0, 1) := by decide +kernel
theorem d3_37 : decode method_2_code 37 = .ok (.lload_n 2, 1) := by decide +kernel
theorem d3_38 : decode method_2_code 38 = .ok (.lmul, 1) := by decide +kernel
theorem d3_39 : decode method_2_code 39 = .ok (.lsub, 1) := by decide +kernel
theorem d3_40 : decode method_2_code 40 = .ok (.lmul, 1) := by decide +kernel
theorem d3_41 : decode method_2_code 41 = .ok (.lstore_n 2, 1) := by decide +kernel
theorem d3_42 : decode method_2_code 42 = .ok (.lload_n 2, 1) := by decide +kernel
theorem d3_43 : decode method_2_code 43 = .ok (.ldc2_w 7, 3) := by decide +kernel
theorem d3_46 : decode method_2_code 46 = .ok (.lload_n 0, 1) := by decide +kernel
theorem d3_47 : decode method_2_code 47 = .ok (.lload_n 2, 1) := by decide +kernel
theorem d3_48 : decode method_2_code 48 = .ok (.lmul, 1) := by decide +kernel
theorem d3_49 : decode method_2_code 49 = .ok (.lsub, 1) := by decide +kernel
theorem d3_50 : decode method_2_code 50 = .ok (.lmul, 1) := by decide +kernel
theorem d3_51 : decode method_2_code 51 = .ok (.lstore_n 2, 1) := by decide +kernel
theorem d3_52 : decode method_2_code 52 = .ok (.lload_n 2, 1) := by decide +kernel
theorem d3_53 : decode method_2_code 53 = .ok (.lreturn, 1) := by decide +kernel
theorem pn_3 : plainName "com/example/libsynopsis/libsynopsis/hashing/XxHash64AvalanchePinLaw" = true := by first | (simp [plainName, overriddenIn]; done) | decide +kernel
theorem ef_3 (m : MethodId) (x0 : Int64) : entryFrame m #[(.long x0)] 4 = mkF m 0 #[.val (.long x0), .second, .unset, .unset] [] := by first | (simp [entryFrame, mkF, argsToLocals, Value.category]; done) | rfl
def Q3 (Z : State) (q1 : Int64) (h0 : Heap) (n0 : Nat) (v : Option Value) (h : Heap) (L : List Loc) : Prop := v = some (.long (own_st q1 (own_st q1 (own_st q1 (own_st q1 (own_st q1 q1)))))) ∧ Fr n0 L ∧ h = h0
set_option maxRecDepth 65536 in
set_option maxHeartbeats 40000000 in
theorem rm3 (l : Launch) (Z : State) (a0 : Array Value) (hw : ∀ d ∈ tables_1, d.before a0 Z = true) (ws : List Jvm.Cond) (q1 : Int64) (h0 : Heap) (n0 : Nat) (Z0 : n0 ≤ h0.size) :
    MetFree l (⟨"com/example/libsynopsis/libsynopsis/hashing/XxHash64AvalanchePinLaw", "oddInverse", "(J)J"⟩ : MethodName) (head1 (Jvm.Cond.code (⟨"com/example/libsynopsis/libsynopsis/hashing/XxHash64AvalanchePinLaw", "oddInverse", "(J)J"⟩ : MethodName) method_2_code 4 (some .long) :: ws) ({ frames := 0, cells := 0, slots := 0, locals := 0 } : Room)) (fun a U => a = #[(.long q1)] ∧ Z.Warmed39 U.vm ∧ U.heap = h0) (fun _ _ _ _ _ => True) (fun _ U o U' => ∃ v L, o = .returned v ∧ Q3 Z q1 h0 n0 v U'.heap L ∧ FrameEnd U o U' L ({ frames := 0, cells := 0, slots := 0, locals := 0 } : Room).cells ({ frames := 0, cells := 0, slots := 0, locals := 0 } : Room).slots) := by
  refine MetFree.of_bodySF (plainFor_of_name pn_3) hisR ?_
  intro p e s m args below meth c s₁ Bd hml0 hP hK
  obtain ⟨rfl, hZ, hh⟩ := hP
  have hx := Bd.exec
  have hby := Bd.bytes
  have hml : c.maxLocals = 4 := hml0
  have hown : s.vm.findClass "com/example/libsynopsis/libsynopsis/hashing/XxHash64AvalanchePinLaw" = some m.cls := findClass_of_methodNamed Bd.named
  have hnm := (name_of_methodNamed Bd.named Bd.method).1
  have X0 : Stand p l e ({ frames := 0, cells := 0, slots := 0, locals := 0 } : Room) s m #[(.long q1)] below meth c s₁ [] 0 0 := Stand.of_body Bd
  have e0 : s₁.heap = h0 := by rw [← hh, Bd.state]; rfl
  have N0 := Fr.nil n0
  have pre0 : ∀ t, Steps p.tables e below (s₁.setTop (mkF m 0 #[.val (.long q1), .second, .unset, .unset] [])) t → Steps p.tables e below (s₁.setTop (entryFrame m #[(.long q1)] 4)) t := fun t k => castTop (ef_3 m q1) k
  obtain ⟨fs, hr, hrun, hended, hW, hsame⟩ := X0.leave (v := some (.long (own_st q1 (own_st q1 (own_st q1 (own_st q1 (own_st q1 q1))))))) (fun h => by rw [Bd.returns] at h; cases h)
  refine ⟨_, _, pre0 _ ?_, hrun, hended, _, _, rfl, ?_, ⟨_, rfl⟩, hW, hsame.mono (by decide) (by decide)⟩
  · show Steps p.tables e below (s₁.setTop (mkF m 0 #[.val (.long q1), .second, .unset, .unset] [])) _
    refine XS.lloadN X0.here hx rfl (hb hby d3_0) rfl ?_
    show Steps p.tables e below (s₁.setTop (mkF m 1 #[.val (.long q1), .second, .unset, .unset] [(.long q1)])) _
    refine XS.lstoreN X0.here hx rfl (hb hby d3_1) rfl (l' := #[.val (.long q1), .second, .val (.long q1), .second]) rfl ?_
    show Steps p.tables e below (s₁.setTop (mkF m 2 #[.val (.long q1), .second, .val (.long q1), .second] [])) _
    refine XS.lloadN X0.here hx rfl (hb hby d3_2) rfl ?_
    show Steps p.tables e below (s₁.setTop (mkF m 3 #[.val (.long q1), .second, .val (.long q1), .second] [(.long q1)])) _
    refine X0.ldc2Long hx hown (mvT hZ (hw _ (List.mem_of_getElem? (i := 14) rfl))) (g := (mkF m 3 #[.val (.long q1), .second, .val (.long q1), .second] [(.long q1)])) rfl (hb hby d3_3) _ ?_
    show Steps p.tables e below (s₁.setTop (mkF m 6 #[.val (.long q1), .second, .val (.long q1), .second] [(.long (2 : Int64)), (.long q1)])) _
    refine XS.lloadN X0.here hx rfl (hb hby d3_6) rfl ?_
    show Steps p.tables e below (s₁.setTop (mkF m 7 #[.val (.long q1), .second, .val (.long q1), .second] [(.long q1), (.long (2 : Int64)), (.long q1)])) _
    refine XS.lloadN X0.here hx rfl (hb hby d3_7) rfl ?_
    show Steps p.tables e below (s₁.setTop (mkF m 8 #[.val (.long q1), .second, .val (.long q1), .second] [(.long q1), (.long q1), (.long (2 : Int64)), (.long q1)])) _
    refine XS.lmul X0.here hx rfl (hb hby d3_8) rfl ?_
    show Steps p.tables e below (s₁.setTop (mkF m 9 #[.val (.long q1), .second, .val (.long q1), .second] [(.long (q1 * q1)), (.long (2 : Int64)), (.long q1)])) _
    refine XS.lsub X0.here hx rfl (hb hby d3_9) rfl ?_
    show Steps p.tables e below (s₁.setTop (mkF m 10 #[.val (.long q1), .second, .val (.long q1), .second] [(.long ((2 : Int64) - (q1 * q1))), (.long q1)])) _
    refine XS.lmul X0.here hx rfl (hb hby d3_10) rfl ?_
    show Steps p.tables e below (s₁.setTop (mkF m 11 #[.val (.long q1), .second, .val (.long q1), .second] [(.long (own_st q1 q1))])) _
    refine XS.lstoreN X0.here hx rfl (hb hby d3_11) rfl (l' := #[.val (.long q1), .second, .val (.long (own_st q1 q1)), .second]) rfl ?_
    show Steps p.tables e below (s₁.setTop (mkF m 12 #[.val (.long q1), .second, .val (.long (own_st q1 q1)), .second] [])) _
    refine XS.lloadN X0.here hx rfl (hb hby d3_12) rfl ?_
    show Steps p.tables e below (s₁.setTop (mkF m 13 #[.val (.long q1), .second, .val (.long (own_st q1 q1)), .second] [(.long (own_st q1 q1))])) _
    refine X0.ldc2Long hx hown (mvT hZ (hw _ (List.mem_of_getElem? (i := 14) rfl))) (g := (mkF m 13 #[.val (.long q1), .second, .val (.long (own_st q1 q1)), .second] [(.long (own_st q1 q1))])) rfl (hb hby d3_13) _ ?_
    show Steps p.tables e below (s₁.setTop (mkF m 16 #[.val (.long q1), .second, .val (.long (own_st q1 q1)), .second] [(.long (2 : Int64)), (.long (own_st q1 q1))])) _
    refine XS.lloadN X0.here hx rfl (hb hby d3_16) rfl ?_
    show Steps p.tables e below (s₁.setTop (mkF m 17 #[.val (.long q1), .second, .val (.long (own_st q1 q1)), .second] [(.long q1), (.long (2 : Int64)), (.long (own_st q1 q1))])) _
    refine XS.lloadN X0.here hx rfl (hb hby d3_17) rfl ?_
    show Steps p.tables e below (s₁.setTop (mkF m 18 #[.val (.long q1), .second, .val (.long (own_st q1 q1)), .second] [(.long (own_st q1 q1)), (.long q1), (.long (2 : Int64)), (.long (own_st q1 q1))])) _
    refine XS.lmul X0.here hx rfl (hb hby d3_18) rfl ?_
    show Steps p.tables e below (s₁.setTop (mkF m 19 #[.val (.long q1), .second, .val (.long (own_st q1 q1)), .second] [(.long (q1 * (own_st q1 q1))), (.long (2 : Int64)), (.long (own_st q1 q1))])) _
    refine XS.lsub X0.here hx rfl (hb hby d3_19) rfl ?_
    show Steps p.tables e below (s₁.setTop (mkF m 20 #[.val (.long q1), .second, .val (.long (own_st q1 q1)), .second] [(.long ((2 : Int64) - (q1 * (own_st q1 q1)))), (.long (own_st q1 q1))])) _
    refine XS.lmul X0.here hx rfl (hb hby d3_20) rfl ?_
    show Steps p.tables e below (s₁.setTop (mkF m 21 #[.val (.long q1), .second, .val (.long (own_st q1 q1)), .second] [(.long (own_st q1 (own_st q1 q1)))])) _
    refine XS.lstoreN X0.here hx rfl (hb hby d3_21) rfl (l' := #[.val (.long q1), .second, .val (.long (own_st q1 (own_st q1 q1))), .second]) rfl ?_
    show Steps p.tables e below (s₁.setTop (mkF m 22 #[.val (.long q1), .second, .val (.long (own_st q1 (own_st q1 q1))), .second] [])) _
    refine XS.lloadN X0.here hx rfl (hb hby d3_22) rfl ?_
    show Steps p.tables e below (s₁.setTop (mkF m 23 #[.val (.long q1), .second, .val (.long (own_st q1 (own_st q1 q1))), .second] [(.long (own_st q1 (own_st q1 q1)))])) _
    refine X0.ldc2Long hx hown (mvT hZ (hw _ (List.mem_of_getElem? (i := 14) rfl))) (g := (mkF m 23 #[.val (.long q1), .second, .val (.long (own_st q1 (own_st q1 q1))), .second] [(.long (own_st q1 (own_st q1 q1)))])) rfl (hb hby d3_23) _ ?_
    show Steps p.tables e below (s₁.setTop (mkF m 26 #[.val (.long q1), .second, .val (.long (own_st q1 (own_st q1 q1))), .second] [(.long (2 : Int64)), (.long (own_st q1 (own_st q1 q1)))])) _
    refine XS.lloadN X0.here hx rfl (hb hby d3_26) rfl ?_
    show Steps p.tables e below (s₁.setTop (mkF m 27 #[.val (.long q1), .second, .val (.long (own_st q1 (own_st q1 q1))), .second] [(.long q1), (.long (2 : Int64)), (.long (own_st q1 (own_st q1 q1)))])) _
    refine XS.lloadN X0.here hx rfl (hb hby d3_27) rfl ?_
    show Steps p.tables e below (s₁.setTop (mkF m 28 #[.val (.long q1), .second, .val (.long (own_st q1 (own_st q1 q1))), .second] [(.long (own_st q1 (own_st q1 q1))), (.long q1), (.long (2 : Int64)), (.long (own_st q1 (own_st q1 q1)))])) _
    refine XS.lmul X0.here hx rfl (hb hby d3_28) rfl ?_
    show Steps p.tables e below (s₁.setTop (mkF m 29 #[.val (.long q1), .second, .val (.long (own_st q1 (own_st q1 q1))), .second] [(.long (q1 * (own_st q1 (own_st q1 q1)))), (.long (2 : Int64)), (.long (own_st q1 (own_st q1 q1)))])) _
    refine XS.lsub X0.here hx rfl (hb hby d3_29) rfl ?_
    show Steps p.tables e below (s₁.setTop (mkF m 30 #[.val (.long q1), .second, .val (.long (own_st q1 (own_st q1 q1))), .second] [(.long ((2 : Int64) - (q1 * (own_st q1 (own_st q1 q1))))), (.long (own_st q1 (own_st q1 q1)))])) _
    refine XS.lmul X0.here hx rfl (hb hby d3_30) rfl ?_
    show Steps p.tables e below (s₁.setTop (mkF m 31 #[.val (.long q1), .second, .val (.long (own_st q1 (own_st q1 q1))), .second] [(.long (own_st q1 (own_st q1 (own_st q1 q1))))])) _
    refine XS.lstoreN X0.here hx rfl (hb hby d3_31) rfl (l' := #[.val (.long q1), .second, .val (.long (own_st q1 (own_st q1 (own_st q1 q1)))), .second]) rfl ?_
    show Steps p.tables e below (s₁.setTop (mkF m 32 #[.val (.long q1), .second, .val (.long (own_st q1 (own_st q1 (own_st q1 q1)))), .second] [])) _
    refine XS.lloadN X0.here hx rfl (hb hby d3_32) rfl ?_
    show Steps p.tables e below (s₁.setTop (mkF m 33 #[.val (.long q1), .second, .val (.long (own_st q1 (own_st q1 (own_st q1 q1)))), .second] [(.long (own_st q1 (own_st q1 (own_st q1 q1))))])) _
    refine X0.ldc2Long hx hown (mvT hZ (hw _ (List.mem_of_getElem? (i := 14) rfl))) (g := (mkF m 33 #[.val (.long q1), .second, .val (.long (own_st q1 (own_st q1 (own_st q1 q1)))), .second] [(.long (own_st q1 (own_st q1 (own_st q1 q1))))])) rfl (hb hby d3_33) _ ?_
    show Steps p.tables e below (s₁.setTop (mkF m 36 #[.val (.long q1), .second, .val (.long (own_st q1 (own_st q1 (own_st q1 q1)))), .second] [(.long (2 : Int64)), (.long (own_st q1 (own_st q1 (own_st q1 q1))))])) _
    refine XS.lloadN X0.here hx rfl (hb hby d3_36) rfl ?_
    show Steps p.tables e below (s₁.setTop (mkF m 37 #[.val (.long q1), .second, .val (.long (own_st q1 (own_st q1 (own_st q1 q1)))), .second] [(.long q1), (.long (2 : Int64)), (.long (own_st q1 (own_st q1 (own_st q1 q1))))])) _
    refine XS.lloadN X0.here hx rfl (hb hby d3_37) rfl ?_
    show Steps p.tables e below (s₁.setTop (mkF m 38 #[.val (.long q1), .second, .val (.long (own_st q1 (own_st q1 (own_st q1 q1)))), .second] [(.long (own_st q1 (own_st q1 (own_st q1 q1)))), (.long q1), (.long (2 : Int64)), (.long (own_st q1 (own_st q1 (own_st q1 q1))))])) _
    refine XS.lmul X0.here hx rfl (hb hby d3_38) rfl ?_
    show Steps p.tables e below (s₁.setTop (mkF m 39 #[.val (.long q1), .second, .val (.long (own_st q1 (own_st q1 (own_st q1 q1)))), .second] [(.long (q1 * (own_st q1 (own_st q1 (own_st q1 q1))))), (.long (2 : Int64)), (.long (own_st q1 (own_st q1 (own_st q1 q1))))])) _
    refine XS.lsub X0.here hx rfl (hb hby d3_39) rfl ?_
    show Steps p.tables e below (s₁.setTop (mkF m 40 #[.val (.long q1), .second, .val (.long (own_st q1 (own_st q1 (own_st q1 q1)))), .second] [(.long ((2 : Int64) - (q1 * (own_st q1 (own_st q1 (own_st q1 q1)))))), (.long (own_st q1 (own_st q1 (own_st q1 q1))))])) _
    refine XS.lmul X0.here hx rfl (hb hby d3_40) rfl ?_
    show Steps p.tables e below (s₁.setTop (mkF m 41 #[.val (.long q1), .second, .val (.long (own_st q1 (own_st q1 (own_st q1 q1)))), .second] [(.long (own_st q1 (own_st q1 (own_st q1 (own_st q1 q1)))))])) _
    refine XS.lstoreN X0.here hx rfl (hb hby d3_41) rfl (l' := #[.val (.long q1), .second, .val (.long (own_st q1 (own_st q1 (own_st q1 (own_st q1 q1))))), .second]) rfl ?_
    show Steps p.tables e below (s₁.setTop (mkF m 42 #[.val (.long q1), .second, .val (.long (own_st q1 (own_st q1 (own_st q1 (own_st q1 q1))))), .second] [])) _
    refine XS.lloadN X0.here hx rfl (hb hby d3_42) rfl ?_
    show Steps p.tables e below (s₁.setTop (mkF m 43 #[.val (.long q1), .second, .val (.long (own_st q1 (own_st q1 (own_st q1 (own_st q1 q1))))), .second] [(.long (own_st q1 (own_st q1 (own_st q1 (own_st q1 q1)))))])) _
    refine X0.ldc2Long hx hown (mvT hZ (hw _ (List.mem_of_getElem? (i := 14) rfl))) (g := (mkF m 43 #[.val (.long q1), .second, .val (.long (own_st q1 (own_st q1 (own_st q1 (own_st q1 q1))))), .second] [(.long (own_st q1 (own_st q1 (own_st q1 (own_st q1 q1)))))])) rfl (hb hby d3_43) _ ?_
    show Steps p.tables e below (s₁.setTop (mkF m 46 #[.val (.long q1), .second, .val (.long (own_st q1 (own_st q1 (own_st q1 (own_st q1 q1))))), .second] [(.long (2 : Int64)), (.long (own_st q1 (own_st q1 (own_st q1 (own_st q1 q1)))))])) _
    refine XS.lloadN X0.here hx rfl (hb hby d3_46) rfl ?_
    show Steps p.tables e below (s₁.setTop (mkF m 47 #[.val (.long q1), .second, .val (.long (own_st q1 (own_st q1 (own_st q1 (own_st q1 q1))))), .second] [(.long q1), (.long (2 : Int64)), (.long (own_st q1 (own_st q1 (own_st q1 (own_st q1 q1)))))])) _
    refine XS.lloadN X0.here hx rfl (hb hby d3_47) rfl ?_
    show Steps p.tables e below (s₁.setTop (mkF m 48 #[.val (.long q1), .second, .val (.long (own_st q1 (own_st q1 (own_st q1 (own_st q1 q1))))), .second] [(.long (own_st q1 (own_st q1 (own_st q1 (own_st q1 q1))))), (.long q1), (.long (2 : Int64)), (.long (own_st q1 (own_st q1 (own_st q1 (own_st q1 q1)))))])) _
    refine XS.lmul X0.here hx rfl (hb hby d3_48) rfl ?_
    show Steps p.tables e below (s₁.setTop (mkF m 49 #[.val (.long q1), .second, .val (.long (own_st q1 (own_st q1 (own_st q1 (own_st q1 q1))))), .second] [(.long (q1 * (own_st q1 (own_st q1 (own_st q1 (own_st q1 q1)))))), (.long (2 : Int64)), (.long (own_st q1 (own_st q1 (own_st q1 (own_st q1 q1)))))])) _
    refine XS.lsub X0.here hx rfl (hb hby d3_49) rfl ?_
    show Steps p.tables e below (s₁.setTop (mkF m 50 #[.val (.long q1), .second, .val (.long (own_st q1 (own_st q1 (own_st q1 (own_st q1 q1))))), .second] [(.long ((2 : Int64) - (q1 * (own_st q1 (own_st q1 (own_st q1 (own_st q1 q1))))))), (.long (own_st q1 (own_st q1 (own_st q1 (own_st q1 q1)))))])) _
    refine XS.lmul X0.here hx rfl (hb hby d3_50) rfl ?_
    show Steps p.tables e below (s₁.setTop (mkF m 51 #[.val (.long q1), .second, .val (.long (own_st q1 (own_st q1 (own_st q1 (own_st q1 q1))))), .second] [(.long (own_st q1 (own_st q1 (own_st q1 (own_st q1 (own_st q1 q1))))))])) _
    refine XS.lstoreN X0.here hx rfl (hb hby d3_51) rfl (l' := #[.val (.long q1), .second, .val (.long (own_st q1 (own_st q1 (own_st q1 (own_st q1 (own_st q1 q1)))))), .second]) rfl ?_
    show Steps p.tables e below (s₁.setTop (mkF m 52 #[.val (.long q1), .second, .val (.long (own_st q1 (own_st q1 (own_st q1 (own_st q1 (own_st q1 q1)))))), .second] [])) _
    refine XS.lloadN X0.here hx rfl (hb hby d3_52) rfl ?_
    show Steps p.tables e below (s₁.setTop (mkF m 53 #[.val (.long q1), .second, .val (.long (own_st q1 (own_st q1 (own_st q1 (own_st q1 (own_st q1 q1)))))), .second] [(.long (own_st q1 (own_st q1 (own_st q1 (own_st q1 (own_st q1 q1))))))])) _
    jvm_step X0.here [X0.here.top, hx, (hb hby d3_53), X0.method', Bd.returns, narrow]
    first | (intro acts; rw [hr _ acts rfl rfl rfl]) | rw [hr _ _ rfl rfl rfl]
    exact Steps.refl _
  · show Q3 Z q1 h0 n0 _ s₁.heap _
    rw [e0]
    exact ⟨rfl, N0, rfl⟩
theorem d1_0 : decode prog_43_method_13_code 0 = .ok (.lload_n 0, 1) := by decide +kernel
theorem d1_1 : decode prog_43_method_13_code 1 = .ok (.lload_n 0, 1) := by decide +kernel
theorem d1_2 : decode prog_43_method_13_code 2 = .ok (.bipush 33, 2) := by decide +kernel
theorem d1_4 : decode prog_43_method_13_code 4 = .ok (.lushr, 1) := by decide +kernel
theorem d1_5 : decode prog_43_method_13_code 5 = .ok (.lxor, 1) := by decide +kernel
theorem d1_6 : decode prog_43_method_13_code 6 = .ok (.ldc2_w 57, 3) := by decide +kernel
theorem d1_9 : decode prog_43_method_13_code 9 = .ok (.lmul, 1) := by decide +kernel
theorem d1_10 : decode prog_43_method_13_code 10 = .ok (.lstore_n 2, 1) := by decide +kernel
theorem d1_11 : decode prog_43_method_13_code 11 = .ok (.lload_n 2, 1) := by decide +kernel
theorem d1_12 : decode prog_43_method_13_code 12 = .ok (.lload_n 2, 1) := by decide +kernel
theorem d1_13 : decode prog_43_method_13_code 13 = .ok (.bipush 29, 2) := by decide +kernel
theorem d1_15 : decode prog_43_method_13_code 15 = .ok (.lushr, 1) := by decide +kernel
theorem d1_16 : decode prog_43_method_13_code 16 = .ok (.lxor, 1) := by decide +kernel
theorem d1_17 : decode prog_43_method_13_code 17 = .ok (.ldc2_w 100, 3) := by decide +kernel
theorem d1_20 : decode prog_43_method_13_code 20 = .ok (.lmul, 1) := by decide +kernel
theorem d1_21 : decode prog_43_method_13_code 21 = .ok (.lstore_n 2, 1) := by decide +kernel
theorem d1_22 : decode prog_43_method_13_code 22 = .ok (.lload_n 2, 1) := by decide +kernel
theorem d1_23 : decode prog_43_method_13_code 23 = .ok (.lload_n 2, 1) := by decide +kernel
theorem d1_24 : decode prog_43_method_13_code 24 = .ok (.bipush 32, 2) := by decide +kernel
theorem d1_26 : decode prog_43_method_13_code 26 = .ok (.lushr, 1) := by decide +kernel
theorem d1_27 : decode prog_43_method_13_code 27 = .ok (.lxor, 1) := by decide +kernel
theorem d1_28 : decode prog_43_method_13_code 28 = .ok (.lreturn, 1) := by decide +kernel
theorem pn_1 : plainName "com/example/libsynopsis/libsynopsis/hashing/XxHash64" = true := by first | (simp [plainName, overriddenIn]; done) | decide +kernel
theorem ef_1 (m : MethodId) (x0 : Int64) : entryFrame m #[(.long x0)] 4 = mkF m 0 #[.val (.long x0), .second, .unset, .unset] [] := by first | (simp [entryFrame, mkF, argsToLocals, Value.category]; done) | rfl
def Q1 (Z : State) (q1 : Int64) (h0 : Heap) (n0 : Nat) (v : Option Value) (h : Heap) (L : List Loc) : Prop := v = some (.long (own_a3 (own_a2 (own_a1 q1)))) ∧ Fr n0 L ∧ h = h0
set_option maxRecDepth 65536 in
set_option maxHeartbeats 40000000 in
theorem rm1 (l : Launch) (Z : State) (a0 : Array Value) (hw : ∀ d ∈ tables_1, d.before a0 Z = true) (ws : List Jvm.Cond) (q1 : Int64) (h0 : Heap) (n0 : Nat) (Z0 : n0 ≤ h0.size) :
    MetFree l (⟨"com/example/libsynopsis/libsynopsis/hashing/XxHash64", "avalanche", "(J)J"⟩ : MethodName) (head1 (Jvm.Cond.code (⟨"com/example/libsynopsis/libsynopsis/hashing/XxHash64", "avalanche", "(J)J"⟩ : MethodName) prog_43_method_13_code 4 (some .long) :: ws) ({ frames := 0, cells := 0, slots := 0, locals := 0 } : Room)) (fun a U => a = #[(.long q1)] ∧ Z.Warmed39 U.vm ∧ U.heap = h0) (fun _ _ _ _ _ => True) (fun _ U o U' => ∃ v L, o = .returned v ∧ Q1 Z q1 h0 n0 v U'.heap L ∧ FrameEnd U o U' L ({ frames := 0, cells := 0, slots := 0, locals := 0 } : Room).cells ({ frames := 0, cells := 0, slots := 0, locals := 0 } : Room).slots) := by
  refine MetFree.of_bodySF (plainFor_of_name pn_1) hisR ?_
  intro p e s m args below meth c s₁ Bd hml0 hP hK
  obtain ⟨rfl, hZ, hh⟩ := hP
  have hx := Bd.exec
  have hby := Bd.bytes
  have hml : c.maxLocals = 4 := hml0
  have hown : s.vm.findClass "com/example/libsynopsis/libsynopsis/hashing/XxHash64" = some m.cls := findClass_of_methodNamed Bd.named
  have hnm := (name_of_methodNamed Bd.named Bd.method).1
  have X0 : Stand p l e ({ frames := 0, cells := 0, slots := 0, locals := 0 } : Room) s m #[(.long q1)] below meth c s₁ [] 0 0 := Stand.of_body Bd
  have e0 : s₁.heap = h0 := by rw [← hh, Bd.state]; rfl
  have N0 := Fr.nil n0
  have pre0 : ∀ t, Steps p.tables e below (s₁.setTop (mkF m 0 #[.val (.long q1), .second, .unset, .unset] [])) t → Steps p.tables e below (s₁.setTop (entryFrame m #[(.long q1)] 4)) t := fun t k => castTop (ef_1 m q1) k
  obtain ⟨fs, hr, hrun, hended, hW, hsame⟩ := X0.leave (v := some (.long (own_a3 (own_a2 (own_a1 q1))))) (fun h => by rw [Bd.returns] at h; cases h)
  refine ⟨_, _, pre0 _ ?_, hrun, hended, _, _, rfl, ?_, ⟨_, rfl⟩, hW, hsame.mono (by decide) (by decide)⟩
  · show Steps p.tables e below (s₁.setTop (mkF m 0 #[.val (.long q1), .second, .unset, .unset] [])) _
    refine XS.lloadN X0.here hx rfl (hb hby d1_0) rfl ?_
    show Steps p.tables e below (s₁.setTop (mkF m 1 #[.val (.long q1), .second, .unset, .unset] [(.long q1)])) _
    refine XS.lloadN X0.here hx rfl (hb hby d1_1) rfl ?_
    show Steps p.tables e below (s₁.setTop (mkF m 2 #[.val (.long q1), .second, .unset, .unset] [(.long q1), (.long q1)])) _
    refine XS.bipush X0.here hx rfl (hb hby d1_2) ?_
    show Steps p.tables e below (s₁.setTop (mkF m 4 #[.val (.long q1), .second, .unset, .unset] [(.int (33 : Int32)), (.long q1), (.long q1)])) _
    refine XS.lushr X0.here hx rfl (hb hby d1_4) rfl ?_
    show Steps p.tables e below (s₁.setTop (mkF m 5 #[.val (.long q1), .second, .unset, .unset] [(.long (own_sh q1 (33 : Int32))), (.long q1)])) _
    refine XS.lxor X0.here hx rfl (hb hby d1_5) rfl ?_
    show Steps p.tables e below (s₁.setTop (mkF m 6 #[.val (.long q1), .second, .unset, .unset] [(.long (q1 ^^^ (own_sh q1 (33 : Int32))))])) _
    refine X0.ldc2Long hx hown (mvT hZ (hw _ (List.mem_of_getElem? (i := 4) rfl))) (g := (mkF m 6 #[.val (.long q1), .second, .unset, .unset] [(.long (q1 ^^^ (own_sh q1 (33 : Int32))))])) rfl (hb hby d1_6) _ ?_
    show Steps p.tables e below (s₁.setTop (mkF m 9 #[.val (.long q1), .second, .unset, .unset] [(.long (-4417276706812531889 : Int64)), (.long (q1 ^^^ (own_sh q1 (33 : Int32))))])) _
    refine XS.lmul X0.here hx rfl (hb hby d1_9) rfl ?_
    show Steps p.tables e below (s₁.setTop (mkF m 10 #[.val (.long q1), .second, .unset, .unset] [(.long (own_a1 q1))])) _
    refine XS.lstoreN X0.here hx rfl (hb hby d1_10) rfl (l' := #[.val (.long q1), .second, .val (.long (own_a1 q1)), .second]) rfl ?_
    show Steps p.tables e below (s₁.setTop (mkF m 11 #[.val (.long q1), .second, .val (.long (own_a1 q1)), .second] [])) _
    refine XS.lloadN X0.here hx rfl (hb hby d1_11) rfl ?_
    show Steps p.tables e below (s₁.setTop (mkF m 12 #[.val (.long q1), .second, .val (.long (own_a1 q1)), .second] [(.long (own_a1 q1))])) _
    refine XS.lloadN X0.here hx rfl (hb hby d1_12) rfl ?_
    show Steps p.tables e below (s₁.setTop (mkF m 13 #[.val (.long q1), .second, .val (.long (own_a1 q1)), .second] [(.long (own_a1 q1)), (.long (own_a1 q1))])) _
    refine XS.bipush X0.here hx rfl (hb hby d1_13) ?_
    show Steps p.tables e below (s₁.setTop (mkF m 15 #[.val (.long q1), .second, .val (.long (own_a1 q1)), .second] [(.int (29 : Int32)), (.long (own_a1 q1)), (.long (own_a1 q1))])) _
    refine XS.lushr X0.here hx rfl (hb hby d1_15) rfl ?_
    show Steps p.tables e below (s₁.setTop (mkF m 16 #[.val (.long q1), .second, .val (.long (own_a1 q1)), .second] [(.long (own_sh (own_a1 q1) (29 : Int32))), (.long (own_a1 q1))])) _
    refine XS.lxor X0.here hx rfl (hb hby d1_16) rfl ?_
    show Steps p.tables e below (s₁.setTop (mkF m 17 #[.val (.long q1), .second, .val (.long (own_a1 q1)), .second] [(.long ((own_a1 q1) ^^^ (own_sh (own_a1 q1) (29 : Int32))))])) _
    refine X0.ldc2Long hx hown (mvT hZ (hw _ (List.mem_of_getElem? (i := 5) rfl))) (g := (mkF m 17 #[.val (.long q1), .second, .val (.long (own_a1 q1)), .second] [(.long ((own_a1 q1) ^^^ (own_sh (own_a1 q1) (29 : Int32))))])) rfl (hb hby d1_17) _ ?_
    show Steps p.tables e below (s₁.setTop (mkF m 20 #[.val (.long q1), .second, .val (.long (own_a1 q1)), .second] [(.long (1609587929392839161 : Int64)), (.long ((own_a1 q1) ^^^ (own_sh (own_a1 q1) (29 : Int32))))])) _
    refine XS.lmul X0.here hx rfl (hb hby d1_20) rfl ?_
    show Steps p.tables e below (s₁.setTop (mkF m 21 #[.val (.long q1), .second, .val (.long (own_a1 q1)), .second] [(.long (own_a2 (own_a1 q1)))])) _
    refine XS.lstoreN X0.here hx rfl (hb hby d1_21) rfl (l' := #[.val (.long q1), .second, .val (.long (own_a2 (own_a1 q1))), .second]) rfl ?_
    show Steps p.tables e below (s₁.setTop (mkF m 22 #[.val (.long q1), .second, .val (.long (own_a2 (own_a1 q1))), .second] [])) _
    refine XS.lloadN X0.here hx rfl (hb hby d1_22) rfl ?_
    show Steps p.tables e below (s₁.setTop (mkF m 23 #[.val (.long q1), .second, .val (.long (own_a2 (own_a1 q1))), .second] [(.long (own_a2 (own_a1 q1)))])) _
    refine XS.lloadN X0.here hx rfl (hb hby d1_23) rfl ?_
    show Steps p.tables e below (s₁.setTop (mkF m 24 #[.val (.long q1), .second, .val (.long (own_a2 (own_a1 q1))), .second] [(.long (own_a2 (own_a1 q1))), (.long (own_a2 (own_a1 q1)))])) _
    refine XS.bipush X0.here hx rfl (hb hby d1_24) ?_
    show Steps p.tables e below (s₁.setTop (mkF m 26 #[.val (.long q1), .second, .val (.long (own_a2 (own_a1 q1))), .second] [(.int (32 : Int32)), (.long (own_a2 (own_a1 q1))), (.long (own_a2 (own_a1 q1)))])) _
    refine XS.lushr X0.here hx rfl (hb hby d1_26) rfl ?_
    show Steps p.tables e below (s₁.setTop (mkF m 27 #[.val (.long q1), .second, .val (.long (own_a2 (own_a1 q1))), .second] [(.long (own_sh (own_a2 (own_a1 q1)) (32 : Int32))), (.long (own_a2 (own_a1 q1)))])) _
    refine XS.lxor X0.here hx rfl (hb hby d1_27) rfl ?_
    show Steps p.tables e below (s₁.setTop (mkF m 28 #[.val (.long q1), .second, .val (.long (own_a2 (own_a1 q1))), .second] [(.long (own_a3 (own_a2 (own_a1 q1))))])) _
    jvm_step X0.here [X0.here.top, hx, (hb hby d1_28), X0.method', Bd.returns, narrow]
    first | (intro acts; rw [hr _ acts rfl rfl rfl]) | rw [hr _ _ rfl rfl rfl]
    exact Steps.refl _
  · show Q1 Z q1 h0 n0 _ s₁.heap _
    rw [e0]
    exact ⟨rfl, N0, rfl⟩
theorem d2_0 : decode method_3_code 0 = .ok (.lload_n 0, 1) := by decide +kernel
theorem d2_1 : decode method_3_code 1 = .ok (.lload_n 0, 1) := by decide +kernel
theorem d2_2 : decode method_3_code 2 = .ok (.bipush 32, 2) := by decide +kernel
theorem d2_4 : decode method_3_code 4 = .ok (.lushr, 1) := by decide +kernel
theorem d2_5 : decode method_3_code 5 = .ok (.lxor, 1) := by decide +kernel
theorem d2_6 : decode method_3_code 6 = .ok (.lstore_n 2, 1) := by decide +kernel
theorem d2_7 : decode method_3_code 7 = .ok (.lload_n 2, 1) := by decide +kernel
theorem d2_8 : decode method_3_code 8 = .ok (.ldc2_w 11, 3) := by decide +kernel
theorem d2_11 : decode method_3_code 11 = .ok (.invokestatic 13, 3) := by decide +kernel
theorem d2_14 : decode method_3_code 14 = .ok (.lmul, 1) := by decide +kernel
theorem d2_15 : decode method_3_code 15 = .ok (.lstore 4, 2) := by decide +kernel
theorem d2_17 : decode method_3_code 17 = .ok (.lload 4, 2) := by decide +kernel
theorem d2_19 : decode method_3_code 19 = .ok (.lload 4, 2) := by decide +kernel
theorem d2_21 : decode method_3_code 21 = .ok (.bipush 29, 2) := by decide +kernel
theorem d2_23 : decode method_3_code 23 = .ok (.lushr, 1) := by decide +kernel
theorem d2_24 : decode method_3_code 24 = .ok (.lxor, 1) := by decide +kernel
theorem d2_25 : decode method_3_code 25 = .ok (.lload 4, 2) := by decide +kernel
theorem d2_27 : decode method_3_code 27 = .ok (.bipush 58, 2) := by decide +kernel
theorem d2_29 : decode method_3_code 29 = .ok (.lushr, 1) := by decide +kernel
theorem d2_30 : decode method_3_code 30 = .ok (.lxor, 1) := by decide +kernel
theorem d2_31 : decode method_3_code 31 = .ok (.lstore 6, 2) := by decide +kernel
theorem d2_33 : decode method_3_code 33 = .ok (.lload 6, 2) := by decide +kernel
theorem d2_35 : decode method_3_code 35 = .ok (.ldc2_w 17, 3) := by decide +kernel
theorem d2_38 : decode method_3_code 38 = .ok (.invokestatic 13, 3) := by decide +kernel
theorem d2_41 : decode method_3_code 41 = .ok (.lmul, 1) := by decide +kernel
theorem d2_42 : decode method_3_code 42 = .ok (.lstore 8, 2) := by decide +kernel
theorem d2_44 : decode method_3_code 44 = .ok (.lload 8, 2) := by decide +kernel
theorem d2_46 : decode method_3_code 46 = .ok (.lload 8, 2) := by decide +kernel
theorem d2_48 : decode method_3_code 48 = .ok (.bipush 33, 2) := by decide +kernel
theorem d2_50 : decode method_3_code 50 = .ok (.lushr, 1) := by decide +kernel
theorem d2_51 : decode method_3_code 51 = .ok (.lxor, 1) := by decide +kernel
theorem d2_52 : decode method_3_code 52 = .ok (.lreturn, 1) := by decide +kernel
theorem pn_2 : plainName "com/example/libsynopsis/libsynopsis/hashing/XxHash64AvalanchePinLaw" = true := by first | (simp [plainName, overriddenIn]; done) | decide +kernel
theorem pd_2_0 : parseMethodDescriptor "(J)J" = some ⟨[.long], some .long⟩ := by decide +kernel
theorem ef_2 (m : MethodId) (x0 : Int64) : entryFrame m #[(.long x0)] 10 = mkF m 0 #[.val (.long x0), .second, .unset, .unset, .unset, .unset, .unset, .unset, .unset, .unset] [] := by first | (simp [entryFrame, mkF, argsToLocals, Value.category]; done) | rfl
def Q2 (Z : State) (q1 : Int64) (h0 : Heap) (n0 : Nat) (v : Option Value) (h : Heap) (L : List Loc) : Prop := v = some (.long (own_unaval q1)) ∧ Fr n0 L ∧ h = h0
set_option maxRecDepth 65536 in
set_option maxHeartbeats 40000000 in
theorem rm2 (l : Launch) (Z : State) (a0 : Array Value) (hw : ∀ d ∈ tables_1, d.before a0 Z = true) (ws : List Jvm.Cond) (q1 : Int64) (h0 : Heap) (n0 : Nat) (Z0 : n0 ≤ h0.size) :
    MetFree l (⟨"com/example/libsynopsis/libsynopsis/hashing/XxHash64AvalanchePinLaw", "unavalanche", "(J)J"⟩ : MethodName) (head1 (Jvm.Cond.code (⟨"com/example/libsynopsis/libsynopsis/hashing/XxHash64AvalanchePinLaw", "unavalanche", "(J)J"⟩ : MethodName) method_3_code 10 (some .long) :: ws) ({ frames := 1, cells := 0, slots := 0, locals := 17 } : Room)) (fun a U => a = #[(.long q1)] ∧ Z.Warmed39 U.vm ∧ U.heap = h0) (fun _ _ _ _ _ => True) (fun _ U o U' => ∃ v L, o = .returned v ∧ Q2 Z q1 h0 n0 v U'.heap L ∧ FrameEnd U o U' L ({ frames := 1, cells := 0, slots := 0, locals := 17 } : Room).cells ({ frames := 1, cells := 0, slots := 0, locals := 17 } : Room).slots) := by
  refine MetFree.of_bodySF (plainFor_of_name pn_2) hisR ?_
  intro p e s m args below meth c s₁ Bd hml0 hP hK
  obtain ⟨rfl, hZ, hh⟩ := hP
  have hx := Bd.exec
  have hby := Bd.bytes
  have hml : c.maxLocals = 10 := hml0
  have hown : s.vm.findClass "com/example/libsynopsis/libsynopsis/hashing/XxHash64AvalanchePinLaw" = some m.cls := findClass_of_methodNamed Bd.named
  have hnm := (name_of_methodNamed Bd.named Bd.method).1
  have X0 : Stand p l e ({ frames := 1, cells := 0, slots := 0, locals := 17 } : Room) s m #[(.long q1)] below meth c s₁ [] 0 0 := Stand.of_body Bd
  have e0 : s₁.heap = h0 := by rw [← hh, Bd.state]; rfl
  have N0 := Fr.nil n0
  have pre0 : ∀ t, Steps p.tables e below (s₁.setTop (mkF m 0 #[.val (.long q1), .second, .unset, .unset, .unset, .unset, .unset, .unset, .unset, .unset] [])) t → Steps p.tables e below (s₁.setTop (entryFrame m #[(.long q1)] 10)) t := fun t k => castTop (ef_2 m q1) k
  obtain ⟨_, _, ⟨T2, L2, k2, n2⟩, -, X2, ⟨Lc2, hQ2, l2, y2, z2⟩, st2⟩ := Jvm.LawKit.callS X0 hx (y := (⟨"com/example/libsynopsis/libsynopsis/hashing/XxHash64AvalanchePinLaw", "oddInverse", "(J)J"⟩ : MethodName)) hown (mvT hZ (hw _ (List.mem_of_getElem? (i := 11) rfl))) (mvT hZ (hw _ (List.mem_of_getElem? (i := 12) rfl))) (mvT hZ (hw _ (List.mem_of_getElem? (i := 8) rfl))) (mvT hZ (hw _ (List.mem_of_getElem? (i := 13) rfl))) (by decide) (backOf (W := 2) (rm3 l Z a0 hw [] (1609587929392839161 : Int64) h0 n0 Z0) hZ (hw _ (List.mem_of_getElem? (i := 13) rfl)) (hw _ (List.mem_of_getElem? (i := 8) rfl)) (by decide) (by decide)) (g := (mkF m 11 #[.val (.long q1), .second, .val (.long (own_a3 q1)), .second, .unset, .unset, .unset, .unset, .unset, .unset] [(.long (1609587929392839161 : Int64)), (.long (own_a3 q1))])) rfl (by rw [hml]; rfl) (argsL := [(.long (1609587929392839161 : Int64))]) (rest := [(.long (own_a3 q1))]) (lenOf pd_2_0 rfl) rfl (by show 2 * 0 + _ ≤ _; exact Nat.le_of_eq rfl) (hb hby d2_11) (fun _ _ => ⟨rfl, e0, (by decide : 0 + 0 ≤ _), (by decide : 0 + 0 ≤ _)⟩)
  dsimp only [Pt.U, Pt.locs, Pt.cells, Pt.slots] at X2 l2 y2 z2 st2 hQ2
  subst l2 y2 z2
  obtain ⟨rfl, N2q, g2⟩ := hQ2
  have N2 := Fr.app N0 N2q
  obtain ⟨_, _, ⟨T3, L3, k3, n3⟩, -, X3, ⟨Lc3, hQ3, l3, y3, z3⟩, st3⟩ := Jvm.LawKit.callS X2 hx (y := (⟨"com/example/libsynopsis/libsynopsis/hashing/XxHash64AvalanchePinLaw", "oddInverse", "(J)J"⟩ : MethodName)) hown (mvT hZ (hw _ (List.mem_of_getElem? (i := 11) rfl))) (mvT hZ (hw _ (List.mem_of_getElem? (i := 12) rfl))) (mvT hZ (hw _ (List.mem_of_getElem? (i := 8) rfl))) (mvT hZ (hw _ (List.mem_of_getElem? (i := 13) rfl))) (by decide) (backOf (W := 2) (rm3 l Z a0 hw [] (-4417276706812531889 : Int64) T2.heap n0 (by rw [g2]; exact Z0)) hZ (hw _ (List.mem_of_getElem? (i := 13) rfl)) (hw _ (List.mem_of_getElem? (i := 8) rfl)) (by decide) (by decide)) (g := (mkF m 38 #[.val (.long q1), .second, .val (.long (own_a3 q1)), .second, .val (.long (own_u1 q1)), .second, .val (.long (((own_u1 q1) ^^^ (own_sh (own_u1 q1) (29 : Int32))) ^^^ (own_sh (own_u1 q1) (58 : Int32)))), .second, .unset, .unset] [(.long (-4417276706812531889 : Int64)), (.long (((own_u1 q1) ^^^ (own_sh (own_u1 q1) (29 : Int32))) ^^^ (own_sh (own_u1 q1) (58 : Int32))))])) rfl (by rw [hml]; rfl) (argsL := [(.long (-4417276706812531889 : Int64))]) (rest := [(.long (((own_u1 q1) ^^^ (own_sh (own_u1 q1) (29 : Int32))) ^^^ (own_sh (own_u1 q1) (58 : Int32))))]) (lenOf pd_2_0 rfl) rfl (by show 2 * 0 + _ ≤ _; exact Nat.le_of_eq rfl) (hb hby d2_38) (fun _ _ => ⟨rfl, rfl, (by decide : 0 + 0 ≤ _), (by decide : 0 + 0 ≤ _)⟩)
  dsimp only [Pt.U, Pt.locs, Pt.cells, Pt.slots] at X3 l3 y3 z3 st3 hQ3
  subst l3 y3 z3
  obtain ⟨rfl, N3q, g3⟩ := hQ3
  have N3 := Fr.app N2 N3q
  obtain ⟨fs, hr, hrun, hended, hW, hsame⟩ := X3.leave (v := some (.long (own_u3 (own_u2 (own_u1 q1))))) (fun h => by rw [Bd.returns] at h; cases h)
  refine ⟨_, _, pre0 _ ?_, hrun, hended, _, _, rfl, ?_, ⟨_, rfl⟩, hW, hsame.mono (by decide) (by decide)⟩
  · show Steps p.tables e below (s₁.setTop (mkF m 0 #[.val (.long q1), .second, .unset, .unset, .unset, .unset, .unset, .unset, .unset, .unset] [])) _
    refine XS.lloadN X0.here hx rfl (hb hby d2_0) rfl ?_
    show Steps p.tables e below (s₁.setTop (mkF m 1 #[.val (.long q1), .second, .unset, .unset, .unset, .unset, .unset, .unset, .unset, .unset] [(.long q1)])) _
    refine XS.lloadN X0.here hx rfl (hb hby d2_1) rfl ?_
    show Steps p.tables e below (s₁.setTop (mkF m 2 #[.val (.long q1), .second, .unset, .unset, .unset, .unset, .unset, .unset, .unset, .unset] [(.long q1), (.long q1)])) _
    refine XS.bipush X0.here hx rfl (hb hby d2_2) ?_
    show Steps p.tables e below (s₁.setTop (mkF m 4 #[.val (.long q1), .second, .unset, .unset, .unset, .unset, .unset, .unset, .unset, .unset] [(.int (32 : Int32)), (.long q1), (.long q1)])) _
    refine XS.lushr X0.here hx rfl (hb hby d2_4) rfl ?_
    show Steps p.tables e below (s₁.setTop (mkF m 5 #[.val (.long q1), .second, .unset, .unset, .unset, .unset, .unset, .unset, .unset, .unset] [(.long (own_sh q1 (32 : Int32))), (.long q1)])) _
    refine XS.lxor X0.here hx rfl (hb hby d2_5) rfl ?_
    show Steps p.tables e below (s₁.setTop (mkF m 6 #[.val (.long q1), .second, .unset, .unset, .unset, .unset, .unset, .unset, .unset, .unset] [(.long (own_a3 q1))])) _
    refine XS.lstoreN X0.here hx rfl (hb hby d2_6) rfl (l' := #[.val (.long q1), .second, .val (.long (own_a3 q1)), .second, .unset, .unset, .unset, .unset, .unset, .unset]) rfl ?_
    show Steps p.tables e below (s₁.setTop (mkF m 7 #[.val (.long q1), .second, .val (.long (own_a3 q1)), .second, .unset, .unset, .unset, .unset, .unset, .unset] [])) _
    refine XS.lloadN X0.here hx rfl (hb hby d2_7) rfl ?_
    show Steps p.tables e below (s₁.setTop (mkF m 8 #[.val (.long q1), .second, .val (.long (own_a3 q1)), .second, .unset, .unset, .unset, .unset, .unset, .unset] [(.long (own_a3 q1))])) _
    refine X0.ldc2Long hx hown (mvT hZ (hw _ (List.mem_of_getElem? (i := 10) rfl))) (g := (mkF m 8 #[.val (.long q1), .second, .val (.long (own_a3 q1)), .second, .unset, .unset, .unset, .unset, .unset, .unset] [(.long (own_a3 q1))])) rfl (hb hby d2_8) _ ?_
    show Steps p.tables e below (s₁.setTop (mkF m 11 #[.val (.long q1), .second, .val (.long (own_a3 q1)), .second, .unset, .unset, .unset, .unset, .unset, .unset] [(.long (1609587929392839161 : Int64)), (.long (own_a3 q1))])) _
    refine st2 _ ?_
    show Steps p.tables e below (T2.setTop (mkF m 14 #[.val (.long q1), .second, .val (.long (own_a3 q1)), .second, .unset, .unset, .unset, .unset, .unset, .unset] [(.long (own_inv (1609587929392839161 : Int64))), (.long (own_a3 q1))])) _
    refine XS.lmul X2.here hx rfl (hb hby d2_14) rfl ?_
    show Steps p.tables e below (T2.setTop (mkF m 15 #[.val (.long q1), .second, .val (.long (own_a3 q1)), .second, .unset, .unset, .unset, .unset, .unset, .unset] [(.long (own_u1 q1))])) _
    refine XS.lstore X2.here hx rfl (hb hby d2_15) rfl (l' := #[.val (.long q1), .second, .val (.long (own_a3 q1)), .second, .val (.long (own_u1 q1)), .second, .unset, .unset, .unset, .unset]) rfl ?_
    show Steps p.tables e below (T2.setTop (mkF m 17 #[.val (.long q1), .second, .val (.long (own_a3 q1)), .second, .val (.long (own_u1 q1)), .second, .unset, .unset, .unset, .unset] [])) _
    refine XS.lload X2.here hx rfl (hb hby d2_17) rfl ?_
    show Steps p.tables e below (T2.setTop (mkF m 19 #[.val (.long q1), .second, .val (.long (own_a3 q1)), .second, .val (.long (own_u1 q1)), .second, .unset, .unset, .unset, .unset] [(.long (own_u1 q1))])) _
    refine XS.lload X2.here hx rfl (hb hby d2_19) rfl ?_
    show Steps p.tables e below (T2.setTop (mkF m 21 #[.val (.long q1), .second, .val (.long (own_a3 q1)), .second, .val (.long (own_u1 q1)), .second, .unset, .unset, .unset, .unset] [(.long (own_u1 q1)), (.long (own_u1 q1))])) _
    refine XS.bipush X2.here hx rfl (hb hby d2_21) ?_
    show Steps p.tables e below (T2.setTop (mkF m 23 #[.val (.long q1), .second, .val (.long (own_a3 q1)), .second, .val (.long (own_u1 q1)), .second, .unset, .unset, .unset, .unset] [(.int (29 : Int32)), (.long (own_u1 q1)), (.long (own_u1 q1))])) _
    refine XS.lushr X2.here hx rfl (hb hby d2_23) rfl ?_
    show Steps p.tables e below (T2.setTop (mkF m 24 #[.val (.long q1), .second, .val (.long (own_a3 q1)), .second, .val (.long (own_u1 q1)), .second, .unset, .unset, .unset, .unset] [(.long (own_sh (own_u1 q1) (29 : Int32))), (.long (own_u1 q1))])) _
    refine XS.lxor X2.here hx rfl (hb hby d2_24) rfl ?_
    show Steps p.tables e below (T2.setTop (mkF m 25 #[.val (.long q1), .second, .val (.long (own_a3 q1)), .second, .val (.long (own_u1 q1)), .second, .unset, .unset, .unset, .unset] [(.long ((own_u1 q1) ^^^ (own_sh (own_u1 q1) (29 : Int32))))])) _
    refine XS.lload X2.here hx rfl (hb hby d2_25) rfl ?_
    show Steps p.tables e below (T2.setTop (mkF m 27 #[.val (.long q1), .second, .val (.long (own_a3 q1)), .second, .val (.long (own_u1 q1)), .second, .unset, .unset, .unset, .unset] [(.long (own_u1 q1)), (.long ((own_u1 q1) ^^^ (own_sh (own_u1 q1) (29 : Int32))))])) _
    refine XS.bipush X2.here hx rfl (hb hby d2_27) ?_
    show Steps p.tables e below (T2.setTop (mkF m 29 #[.val (.long q1), .second, .val (.long (own_a3 q1)), .second, .val (.long (own_u1 q1)), .second, .unset, .unset, .unset, .unset] [(.int (58 : Int32)), (.long (own_u1 q1)), (.long ((own_u1 q1) ^^^ (own_sh (own_u1 q1) (29 : Int32))))])) _
    refine XS.lushr X2.here hx rfl (hb hby d2_29) rfl ?_
    show Steps p.tables e below (T2.setTop (mkF m 30 #[.val (.long q1), .second, .val (.long (own_a3 q1)), .second, .val (.long (own_u1 q1)), .second, .unset, .unset, .unset, .unset] [(.long (own_sh (own_u1 q1) (58 : Int32))), (.long ((own_u1 q1) ^^^ (own_sh (own_u1 q1) (29 : Int32))))])) _
    refine XS.lxor X2.here hx rfl (hb hby d2_30) rfl ?_
    show Steps p.tables e below (T2.setTop (mkF m 31 #[.val (.long q1), .second, .val (.long (own_a3 q1)), .second, .val (.long (own_u1 q1)), .second, .unset, .unset, .unset, .unset] [(.long (((own_u1 q1) ^^^ (own_sh (own_u1 q1) (29 : Int32))) ^^^ (own_sh (own_u1 q1) (58 : Int32))))])) _
    refine XS.lstore X2.here hx rfl (hb hby d2_31) rfl (l' := #[.val (.long q1), .second, .val (.long (own_a3 q1)), .second, .val (.long (own_u1 q1)), .second, .val (.long (((own_u1 q1) ^^^ (own_sh (own_u1 q1) (29 : Int32))) ^^^ (own_sh (own_u1 q1) (58 : Int32)))), .second, .unset, .unset]) rfl ?_
    show Steps p.tables e below (T2.setTop (mkF m 33 #[.val (.long q1), .second, .val (.long (own_a3 q1)), .second, .val (.long (own_u1 q1)), .second, .val (.long (((own_u1 q1) ^^^ (own_sh (own_u1 q1) (29 : Int32))) ^^^ (own_sh (own_u1 q1) (58 : Int32)))), .second, .unset, .unset] [])) _
    refine XS.lload X2.here hx rfl (hb hby d2_33) rfl ?_
    show Steps p.tables e below (T2.setTop (mkF m 35 #[.val (.long q1), .second, .val (.long (own_a3 q1)), .second, .val (.long (own_u1 q1)), .second, .val (.long (((own_u1 q1) ^^^ (own_sh (own_u1 q1) (29 : Int32))) ^^^ (own_sh (own_u1 q1) (58 : Int32)))), .second, .unset, .unset] [(.long (((own_u1 q1) ^^^ (own_sh (own_u1 q1) (29 : Int32))) ^^^ (own_sh (own_u1 q1) (58 : Int32))))])) _
    refine X2.ldc2Long hx hown (mvT hZ (hw _ (List.mem_of_getElem? (i := 15) rfl))) (g := (mkF m 35 #[.val (.long q1), .second, .val (.long (own_a3 q1)), .second, .val (.long (own_u1 q1)), .second, .val (.long (((own_u1 q1) ^^^ (own_sh (own_u1 q1) (29 : Int32))) ^^^ (own_sh (own_u1 q1) (58 : Int32)))), .second, .unset, .unset] [(.long (((own_u1 q1) ^^^ (own_sh (own_u1 q1) (29 : Int32))) ^^^ (own_sh (own_u1 q1) (58 : Int32))))])) rfl (hb hby d2_35) _ ?_
    show Steps p.tables e below (T2.setTop (mkF m 38 #[.val (.long q1), .second, .val (.long (own_a3 q1)), .second, .val (.long (own_u1 q1)), .second, .val (.long (((own_u1 q1) ^^^ (own_sh (own_u1 q1) (29 : Int32))) ^^^ (own_sh (own_u1 q1) (58 : Int32)))), .second, .unset, .unset] [(.long (-4417276706812531889 : Int64)), (.long (((own_u1 q1) ^^^ (own_sh (own_u1 q1) (29 : Int32))) ^^^ (own_sh (own_u1 q1) (58 : Int32))))])) _
    refine st3 _ ?_
    show Steps p.tables e below (T3.setTop (mkF m 41 #[.val (.long q1), .second, .val (.long (own_a3 q1)), .second, .val (.long (own_u1 q1)), .second, .val (.long (((own_u1 q1) ^^^ (own_sh (own_u1 q1) (29 : Int32))) ^^^ (own_sh (own_u1 q1) (58 : Int32)))), .second, .unset, .unset] [(.long (own_inv (-4417276706812531889 : Int64))), (.long (((own_u1 q1) ^^^ (own_sh (own_u1 q1) (29 : Int32))) ^^^ (own_sh (own_u1 q1) (58 : Int32))))])) _
    refine XS.lmul X3.here hx rfl (hb hby d2_41) rfl ?_
    show Steps p.tables e below (T3.setTop (mkF m 42 #[.val (.long q1), .second, .val (.long (own_a3 q1)), .second, .val (.long (own_u1 q1)), .second, .val (.long (((own_u1 q1) ^^^ (own_sh (own_u1 q1) (29 : Int32))) ^^^ (own_sh (own_u1 q1) (58 : Int32)))), .second, .unset, .unset] [(.long (own_u2 (own_u1 q1)))])) _
    refine XS.lstore X3.here hx rfl (hb hby d2_42) rfl (l' := #[.val (.long q1), .second, .val (.long (own_a3 q1)), .second, .val (.long (own_u1 q1)), .second, .val (.long (((own_u1 q1) ^^^ (own_sh (own_u1 q1) (29 : Int32))) ^^^ (own_sh (own_u1 q1) (58 : Int32)))), .second, .val (.long (own_u2 (own_u1 q1))), .second]) rfl ?_
    show Steps p.tables e below (T3.setTop (mkF m 44 #[.val (.long q1), .second, .val (.long (own_a3 q1)), .second, .val (.long (own_u1 q1)), .second, .val (.long (((own_u1 q1) ^^^ (own_sh (own_u1 q1) (29 : Int32))) ^^^ (own_sh (own_u1 q1) (58 : Int32)))), .second, .val (.long (own_u2 (own_u1 q1))), .second] [])) _
    refine XS.lload X3.here hx rfl (hb hby d2_44) rfl ?_
    show Steps p.tables e below (T3.setTop (mkF m 46 #[.val (.long q1), .second, .val (.long (own_a3 q1)), .second, .val (.long (own_u1 q1)), .second, .val (.long (((own_u1 q1) ^^^ (own_sh (own_u1 q1) (29 : Int32))) ^^^ (own_sh (own_u1 q1) (58 : Int32)))), .second, .val (.long (own_u2 (own_u1 q1))), .second] [(.long (own_u2 (own_u1 q1)))])) _
    refine XS.lload X3.here hx rfl (hb hby d2_46) rfl ?_
    show Steps p.tables e below (T3.setTop (mkF m 48 #[.val (.long q1), .second, .val (.long (own_a3 q1)), .second, .val (.long (own_u1 q1)), .second, .val (.long (((own_u1 q1) ^^^ (own_sh (own_u1 q1) (29 : Int32))) ^^^ (own_sh (own_u1 q1) (58 : Int32)))), .second, .val (.long (own_u2 (own_u1 q1))), .second] [(.long (own_u2 (own_u1 q1))), (.long (own_u2 (own_u1 q1)))])) _
    refine XS.bipush X3.here hx rfl (hb hby d2_48) ?_
    show Steps p.tables e below (T3.setTop (mkF m 50 #[.val (.long q1), .second, .val (.long (own_a3 q1)), .second, .val (.long (own_u1 q1)), .second, .val (.long (((own_u1 q1) ^^^ (own_sh (own_u1 q1) (29 : Int32))) ^^^ (own_sh (own_u1 q1) (58 : Int32)))), .second, .val (.long (own_u2 (own_u1 q1))), .second] [(.int (33 : Int32)), (.long (own_u2 (own_u1 q1))), (.long (own_u2 (own_u1 q1)))])) _
    refine XS.lushr X3.here hx rfl (hb hby d2_50) rfl ?_
    show Steps p.tables e below (T3.setTop (mkF m 51 #[.val (.long q1), .second, .val (.long (own_a3 q1)), .second, .val (.long (own_u1 q1)), .second, .val (.long (((own_u1 q1) ^^^ (own_sh (own_u1 q1) (29 : Int32))) ^^^ (own_sh (own_u1 q1) (58 : Int32)))), .second, .val (.long (own_u2 (own_u1 q1))), .second] [(.long (own_sh (own_u2 (own_u1 q1)) (33 : Int32))), (.long (own_u2 (own_u1 q1)))])) _
    refine XS.lxor X3.here hx rfl (hb hby d2_51) rfl ?_
    show Steps p.tables e below (T3.setTop (mkF m 52 #[.val (.long q1), .second, .val (.long (own_a3 q1)), .second, .val (.long (own_u1 q1)), .second, .val (.long (((own_u1 q1) ^^^ (own_sh (own_u1 q1) (29 : Int32))) ^^^ (own_sh (own_u1 q1) (58 : Int32)))), .second, .val (.long (own_u2 (own_u1 q1))), .second] [(.long (own_u3 (own_u2 (own_u1 q1))))])) _
    jvm_step X3.here [X3.here.top, hx, (hb hby d2_52), X3.method', Bd.returns, narrow]
    first | (intro acts; rw [hr _ acts rfl rfl rfl]) | rw [hr _ _ rfl rfl rfl]
    exact Steps.refl _
  · show Q2 Z q1 h0 n0 _ T3.heap _
    exact ⟨rfl, N3, g3.trans g2⟩
theorem pn_0 : plainName "com/example/libsynopsis/libsynopsis/hashing/XxHash64AvalanchePinLaw" = true := by first | (simp [plainName, overriddenIn]; done) | decide +kernel
theorem pd_0_0 : parseMethodDescriptor "(J)J" = some ⟨[.long], some .long⟩ := by decide +kernel
theorem ef_0 (m : MethodId) (x0 : Int64) (x1 : Int64) : entryFrame m #[(.long x0), (.long x1)] maxLocals = mkF m 0 #[.val (.long x0), .second, .val (.long x1), .second, .unset, .unset] [] := by first | (simp [entryFrame, mkF, argsToLocals, Value.category, maxLocals]; done) | rfl
def Q0 (Z : State) (q1 : Int64) (q2 : Int64) (h0 : Heap) (n0 : Nat) (v : Option Value) (h : Heap) (L : List Loc) : Prop := v = some (.int (1 : Int32)) ∧ Fr n0 L
set_option maxRecDepth 65536 in
set_option maxHeartbeats 40000000 in
theorem rm0 (l : Launch) (Z : State) (a0 : Array Value) (hw : ∀ d ∈ tables_1, d.before a0 Z = true) (ws : List Jvm.Cond) (q1 : Int64) (q2 : Int64) (h0 : Heap) (n0 : Nat) (Z0 : n0 ≤ h0.size) (hc40 : ¬ ((1 : Int32) = (0 : Int32))) (hc45 : ¬ ((1 : Int32) = (0 : Int32))) :
    MetFree l x (head1 (Jvm.Cond.code x code maxLocals ret :: ws) room_1) (fun a U => a = #[(.long q1), (.long q2)] ∧ Z.Warmed39 U.vm ∧ U.heap = h0) (fun _ _ _ _ _ => True) (fun _ U o U' => ∃ v L, o = .returned v ∧ Q0 Z q1 q2 h0 n0 v U'.heap L ∧ FrameEnd U o U' L room_1.cells room_1.slots) := by
  refine MetFree.of_bodySF (plainFor_of_name pn_0) hisR ?_
  intro p e s m args below meth c s₁ Bd hml0 hP hK
  obtain ⟨rfl, hZ, hh⟩ := hP
  have hx := Bd.exec
  have hby := Bd.bytes
  have hml : c.maxLocals = 6 := hml0
  have hown : s.vm.findClass "com/example/libsynopsis/libsynopsis/hashing/XxHash64AvalanchePinLaw" = some m.cls := findClass_of_methodNamed Bd.named
  have hnm := (name_of_methodNamed Bd.named Bd.method).1
  have X0 : Stand p l e room_1 s m #[(.long q1), (.long q2)] below meth c s₁ [] 0 0 := Stand.of_body Bd
  have e0 : s₁.heap = h0 := by rw [← hh, Bd.state]; rfl
  have N0 := Fr.nil n0
  have pre0 : ∀ t, Steps p.tables e below (s₁.setTop (mkF m 0 #[.val (.long q1), .second, .val (.long q2), .second, .unset, .unset] [])) t → Steps p.tables e below (s₁.setTop (entryFrame m #[(.long q1), (.long q2)] maxLocals)) t := fun t k => castTop (ef_0 m q1 q2) k
  obtain ⟨_, _, ⟨T3, L3, k3, n3⟩, -, X3, ⟨Lc3, hQ3, l3, y3, z3⟩, st3⟩ := Jvm.LawKit.callS X0 hx (y := (⟨"com/example/libsynopsis/libsynopsis/hashing/XxHash64", "avalanche", "(J)J"⟩ : MethodName)) hown (mvT hZ (hw _ (List.mem_of_getElem? (i := 0) rfl))) (mvT hZ (hw _ (List.mem_of_getElem? (i := 1) rfl))) (mvT hZ (hw _ (List.mem_of_getElem? (i := 2) rfl))) (mvT hZ (hw _ (List.mem_of_getElem? (i := 3) rfl))) (by decide) (backOf (W := 0) (rm1 l Z a0 hw [] q1 h0 n0 Z0) hZ (hw _ (List.mem_of_getElem? (i := 3) rfl)) (hw _ (List.mem_of_getElem? (i := 2) rfl)) (by decide) (by decide)) (g := (mkF m 1 #[.val (.long q1), .second, .val (.long q2), .second, .unset, .unset] [(.long q1)])) rfl (by rw [hml]; rfl) (argsL := [(.long q1)]) (rest := []) (lenOf pd_0_0 rfl) rfl (by show 2 * 0 + _ ≤ _; exact Nat.le_of_eq rfl) (hb hby at_1) (fun _ _ => ⟨rfl, e0, (by decide : 0 + 0 ≤ _), (by decide : 0 + 0 ≤ _)⟩)
  dsimp only [Pt.U, Pt.locs, Pt.cells, Pt.slots] at X3 l3 y3 z3 st3 hQ3
  subst l3 y3 z3
  obtain ⟨rfl, N3q, g3⟩ := hQ3
  have N3 := Fr.app N0 N3q
  obtain ⟨_, _, ⟨T4, L4, k4, n4⟩, -, X4, ⟨Lc4, hQ4, l4, y4, z4⟩, st4⟩ := Jvm.LawKit.callS X3 hx (y := (⟨"com/example/libsynopsis/libsynopsis/hashing/XxHash64AvalanchePinLaw", "unavalanche", "(J)J"⟩ : MethodName)) hown (mvT hZ (hw _ (List.mem_of_getElem? (i := 6) rfl))) (mvT hZ (hw _ (List.mem_of_getElem? (i := 7) rfl))) (mvT hZ (hw _ (List.mem_of_getElem? (i := 8) rfl))) (mvT hZ (hw _ (List.mem_of_getElem? (i := 9) rfl))) (by decide) (backOf (W := 0) (rm2 l Z a0 hw [] (own_aval q1) T3.heap n0 (by rw [g3]; exact Z0)) hZ (hw _ (List.mem_of_getElem? (i := 9) rfl)) (hw _ (List.mem_of_getElem? (i := 8) rfl)) (by decide) (by decide)) (g := (mkF m 4 #[.val (.long q1), .second, .val (.long q2), .second, .unset, .unset] [(.long (own_aval q1))])) rfl (by rw [hml]; rfl) (argsL := [(.long (own_aval q1))]) (rest := []) (lenOf pd_0_0 rfl) rfl (by show 2 * 0 + _ ≤ _; exact Nat.le_of_eq rfl) (hb hby at_4) (fun _ _ => ⟨rfl, rfl, (by decide : 0 + 0 ≤ _), (by decide : 0 + 0 ≤ _)⟩)
  dsimp only [Pt.U, Pt.locs, Pt.cells, Pt.slots] at X4 l4 y4 z4 st4 hQ4
  subst l4 y4 z4
  obtain ⟨rfl, N4q, g4⟩ := hQ4
  have N4 := Fr.app N3 N4q
  obtain ⟨_, _, ⟨T5, L5, k5, n5⟩, -, X5, ⟨Lc5, hQ5, l5, y5, z5⟩, st5⟩ := Jvm.LawKit.callS X4 hx (y := (⟨"com/example/libsynopsis/libsynopsis/hashing/XxHash64AvalanchePinLaw", "unavalanche", "(J)J"⟩ : MethodName)) hown (mvT hZ (hw _ (List.mem_of_getElem? (i := 6) rfl))) (mvT hZ (hw _ (List.mem_of_getElem? (i := 7) rfl))) (mvT hZ (hw _ (List.mem_of_getElem? (i := 8) rfl))) (mvT hZ (hw _ (List.mem_of_getElem? (i := 9) rfl))) (by decide) (backOf (W := 0) (rm2 l Z a0 hw [] q2 T4.heap n0 (by rw [g4, g3]; exact Z0)) hZ (hw _ (List.mem_of_getElem? (i := 9) rfl)) (hw _ (List.mem_of_getElem? (i := 8) rfl)) (by decide) (by decide)) (g := (mkF m 20 #[.val (.long q1), .second, .val (.long q2), .second, .val (.int (1 : Int32)), .unset] [(.long q2)])) rfl (by rw [hml]; rfl) (argsL := [(.long q2)]) (rest := []) (lenOf pd_0_0 rfl) rfl (by show 2 * 0 + _ ≤ _; exact Nat.le_of_eq rfl) (hb hby at_20) (fun _ _ => ⟨rfl, rfl, (by decide : 0 + 0 ≤ _), (by decide : 0 + 0 ≤ _)⟩)
  dsimp only [Pt.U, Pt.locs, Pt.cells, Pt.slots] at X5 l5 y5 z5 st5 hQ5
  subst l5 y5 z5
  obtain ⟨rfl, N5q, g5⟩ := hQ5
  have N5 := Fr.app N4 N5q
  obtain ⟨_, _, ⟨T6, L6, k6, n6⟩, -, X6, ⟨Lc6, hQ6, l6, y6, z6⟩, st6⟩ := Jvm.LawKit.callS X5 hx (y := (⟨"com/example/libsynopsis/libsynopsis/hashing/XxHash64", "avalanche", "(J)J"⟩ : MethodName)) hown (mvT hZ (hw _ (List.mem_of_getElem? (i := 0) rfl))) (mvT hZ (hw _ (List.mem_of_getElem? (i := 1) rfl))) (mvT hZ (hw _ (List.mem_of_getElem? (i := 2) rfl))) (mvT hZ (hw _ (List.mem_of_getElem? (i := 3) rfl))) (by decide) (backOf (W := 0) (rm1 l Z a0 hw [] (own_unaval q2) T5.heap n0 (by rw [g5, g4, g3]; exact Z0)) hZ (hw _ (List.mem_of_getElem? (i := 3) rfl)) (hw _ (List.mem_of_getElem? (i := 2) rfl)) (by decide) (by decide)) (g := (mkF m 23 #[.val (.long q1), .second, .val (.long q2), .second, .val (.int (1 : Int32)), .unset] [(.long (own_unaval q2))])) rfl (by rw [hml]; rfl) (argsL := [(.long (own_unaval q2))]) (rest := []) (lenOf pd_0_0 rfl) rfl (by show 2 * 0 + _ ≤ _; exact Nat.le_of_eq rfl) (hb hby at_23) (fun _ _ => ⟨rfl, rfl, (by decide : 0 + 0 ≤ _), (by decide : 0 + 0 ≤ _)⟩)
  dsimp only [Pt.U, Pt.locs, Pt.cells, Pt.slots] at X6 l6 y6 z6 st6 hQ6
  subst l6 y6 z6
  obtain ⟨rfl, N6q, g6⟩ := hQ6
  have N6 := Fr.app N5 N6q
  obtain ⟨fs, hr, hrun, hended, hW, hsame⟩ := X6.leave (v := some (.int (1 : Int32))) (fun h => by rw [Bd.returns] at h; cases h)
  refine ⟨_, _, pre0 _ ?_, hrun, hended, _, _, rfl, ?_, ⟨_, rfl⟩, hW, hsame.mono (by decide) (by decide)⟩
  · show Steps p.tables e below (s₁.setTop (mkF m 0 #[.val (.long q1), .second, .val (.long q2), .second, .unset, .unset] [])) _
    refine XS.lloadN X0.here hx rfl (hb hby at_0) rfl ?_
    show Steps p.tables e below (s₁.setTop (mkF m 1 #[.val (.long q1), .second, .val (.long q2), .second, .unset, .unset] [(.long q1)])) _
    refine st3 _ ?_
    show Steps p.tables e below (T3.setTop (mkF m 4 #[.val (.long q1), .second, .val (.long q2), .second, .unset, .unset] [(.long (own_aval q1))])) _
    refine st4 _ ?_
    show Steps p.tables e below (T4.setTop (mkF m 7 #[.val (.long q1), .second, .val (.long q2), .second, .unset, .unset] [(.long (own_unaval (own_aval q1)))])) _
    refine XS.lloadN X4.here hx rfl (hb hby at_7) rfl ?_
    show Steps p.tables e below (T4.setTop (mkF m 8 #[.val (.long q1), .second, .val (.long q2), .second, .unset, .unset] [(.long q1), (.long (own_unaval (own_aval q1)))])) _
    refine XS.lcmp X4.here hx rfl (hb hby at_8) rfl ?_
    show Steps p.tables e below (T4.setTop (mkF m 9 #[.val (.long q1), .second, .val (.long q2), .second, .unset, .unset] [(.int (lcmpW (own_unaval (own_aval q1)) q1))])) _
    refine XS.ifNo X4.here hx rfl (hb hby at_9) rfl ((if0 _ _).trans (teq (own_lc (own_fwd q1) : (lcmpW (own_unaval (own_aval q1)) q1) = (0 : Int32))).2) ?_
    show Steps p.tables e below (T4.setTop (mkF m 12 #[.val (.long q1), .second, .val (.long q2), .second, .unset, .unset] [])) _
    refine XS.iconst X4.here hx rfl (hb hby at_12) ?_
    show Steps p.tables e below (T4.setTop (mkF m 13 #[.val (.long q1), .second, .val (.long q2), .second, .unset, .unset] [(.int (1 : Int32))])) _
    refine XS.goto X4.here hx rfl (pc0 := 13) (pc' := 17) rfl (hb hby at_13) (by decide) (by decide) ?_
    show Steps p.tables e below (T4.setTop (mkF m 17 #[.val (.long q1), .second, .val (.long q2), .second, .unset, .unset] [(.int (1 : Int32))])) _
    refine XS.istore X4.here hx rfl (hb hby at_17) rfl (l' := #[.val (.long q1), .second, .val (.long q2), .second, .val (.int (1 : Int32)), .unset]) rfl ?_
    show Steps p.tables e below (T4.setTop (mkF m 19 #[.val (.long q1), .second, .val (.long q2), .second, .val (.int (1 : Int32)), .unset] [])) _
    refine XS.lloadN X4.here hx rfl (hb hby at_19) rfl ?_
    show Steps p.tables e below (T4.setTop (mkF m 20 #[.val (.long q1), .second, .val (.long q2), .second, .val (.int (1 : Int32)), .unset] [(.long q2)])) _
    refine st5 _ ?_
    show Steps p.tables e below (T5.setTop (mkF m 23 #[.val (.long q1), .second, .val (.long q2), .second, .val (.int (1 : Int32)), .unset] [(.long (own_unaval q2))])) _
    refine st6 _ ?_
    show Steps p.tables e below (T6.setTop (mkF m 26 #[.val (.long q1), .second, .val (.long q2), .second, .val (.int (1 : Int32)), .unset] [(.long (own_aval (own_unaval q2)))])) _
    refine XS.lloadN X6.here hx rfl (hb hby at_26) rfl ?_
    show Steps p.tables e below (T6.setTop (mkF m 27 #[.val (.long q1), .second, .val (.long q2), .second, .val (.int (1 : Int32)), .unset] [(.long q2), (.long (own_aval (own_unaval q2)))])) _
    refine XS.lcmp X6.here hx rfl (hb hby at_27) rfl ?_
    show Steps p.tables e below (T6.setTop (mkF m 28 #[.val (.long q1), .second, .val (.long q2), .second, .val (.int (1 : Int32)), .unset] [(.int (lcmpW (own_aval (own_unaval q2)) q2))])) _
    refine XS.ifNo X6.here hx rfl (hb hby at_28) rfl ((if0 _ _).trans (teq (own_lc (own_bwd q2) : (lcmpW (own_aval (own_unaval q2)) q2) = (0 : Int32))).2) ?_
    show Steps p.tables e below (T6.setTop (mkF m 31 #[.val (.long q1), .second, .val (.long q2), .second, .val (.int (1 : Int32)), .unset] [])) _
    refine XS.iconst X6.here hx rfl (hb hby at_31) ?_
    show Steps p.tables e below (T6.setTop (mkF m 32 #[.val (.long q1), .second, .val (.long q2), .second, .val (.int (1 : Int32)), .unset] [(.int (1 : Int32))])) _
    refine XS.goto X6.here hx rfl (pc0 := 32) (pc' := 36) rfl (hb hby at_32) (by decide) (by decide) ?_
    show Steps p.tables e below (T6.setTop (mkF m 36 #[.val (.long q1), .second, .val (.long q2), .second, .val (.int (1 : Int32)), .unset] [(.int (1 : Int32))])) _
    refine XS.istore X6.here hx rfl (hb hby at_36) rfl (l' := #[.val (.long q1), .second, .val (.long q2), .second, .val (.int (1 : Int32)), .val (.int (1 : Int32))]) rfl ?_
    show Steps p.tables e below (T6.setTop (mkF m 38 #[.val (.long q1), .second, .val (.long q2), .second, .val (.int (1 : Int32)), .val (.int (1 : Int32))] [])) _
    refine XS.iload X6.here hx rfl (hb hby at_38) rfl ?_
    show Steps p.tables e below (T6.setTop (mkF m 40 #[.val (.long q1), .second, .val (.long q2), .second, .val (.int (1 : Int32)), .val (.int (1 : Int32))] [(.int (1 : Int32))])) _
    refine XS.ifNo X6.here hx rfl (hb hby at_40) rfl ((if0 _ _).trans (feq hc40).1) ?_
    show Steps p.tables e below (T6.setTop (mkF m 43 #[.val (.long q1), .second, .val (.long q2), .second, .val (.int (1 : Int32)), .val (.int (1 : Int32))] [])) _
    refine XS.iload X6.here hx rfl (hb hby at_43) rfl ?_
    show Steps p.tables e below (T6.setTop (mkF m 45 #[.val (.long q1), .second, .val (.long q2), .second, .val (.int (1 : Int32)), .val (.int (1 : Int32))] [(.int (1 : Int32))])) _
    refine XS.ifNo X6.here hx rfl (hb hby at_45) rfl ((if0 _ _).trans (feq hc45).1) ?_
    show Steps p.tables e below (T6.setTop (mkF m 48 #[.val (.long q1), .second, .val (.long q2), .second, .val (.int (1 : Int32)), .val (.int (1 : Int32))] [])) _
    refine XS.iconst X6.here hx rfl (hb hby at_48) ?_
    show Steps p.tables e below (T6.setTop (mkF m 49 #[.val (.long q1), .second, .val (.long q2), .second, .val (.int (1 : Int32)), .val (.int (1 : Int32))] [(.int (1 : Int32))])) _
    refine XS.goto X6.here hx rfl (pc0 := 49) (pc' := 53) rfl (hb hby at_49) (by decide) (by decide) ?_
    show Steps p.tables e below (T6.setTop (mkF m 53 #[.val (.long q1), .second, .val (.long q2), .second, .val (.int (1 : Int32)), .val (.int (1 : Int32))] [(.int (1 : Int32))])) _
    exact retN X6 hx (t := .boolean) Bd.returns (by simp) (hb hby at_53) hr
  · show Q0 Z q1 q2 h0 n0 _ T6.heap _
    exact ⟨rfl, N6⟩
set_option maxRecDepth 65536 in
set_option maxHeartbeats 40000000 in
theorem comes_1 {Post : Tables → Env → Array Value → State → Outcome → State → Prop} (hpost : ∀ tb e args s v u, (limb_1_1.after args s (.returned v) u = true ∧ limb_1_2.after args s (.returned v) u = true ∧ True) → FrameEnd s (.returned v) u (Jvm.fieldLocs frame_1_writes args s ++ Jvm.arrayLocs frame_1_arrays args s ++ Jvm.staticLocs frame_1_statics s) 0 0 → Post tb e args s (.returned v) u) :
    ArmFor flags0 classFile x code maxLocals ret World_1 tables_1 room_1 Calls_1 rest_1 Pre_1 Post := by
  intro l hfl _ _ p e ha hc hk s m args below hf hA hF happ hP
  obtain ⟨hcalls, hrest, hpre⟩ := hP
  obtain ⟨-, -, -, hnamed, -, -, -, hat⟩ := (Spec.applies_iff hf).mp happ
  obtain ⟨hg, hn⟩ := and_e (Cond.before_iff.mp (show (Jvm.Cond.and given_1 narrow_1).before args s = true from hpre))
  obtain ⟨g7, g8⟩ := and_e hg
  obtain ⟨g9, g10⟩ := and_e g8
  obtain ⟨w0, w1, rfl⟩ : ∃ w0 w1 : Value, args = #[w0, w1] := by
    have hs : args.size = 2 := by simpa [Cond.value, given_1] using g7
    obtain ⟨L⟩ := args
    match L, hs with
    | [w0, w1], _ => exact ⟨w0, w1, rfl⟩
  have hw := fun d (hd : d ∈ tables_1) => atoms_spec (ws := Jvm.Cond.code x code maxLocals ret :: tables_1) hat d (List.mem_cons_of_mem _ hd)
  have hfit : Fit s := fun {y c} hc i hi => by
    obtain ⟨ha, rfl⟩ := Array.getElem?_eq_some_iff.mp hc
    have q := List.all_eq_true.mp ((Array.all_eq_true_iff_forall_mem.mp hF) _ (Array.getElem_mem ha)) i (List.mem_range.mpr hi)
    simpa [Array.getElem?_eq_getElem hi] using q
  obtain ⟨i0, ei0⟩ := isL_v g9
  obtain rfl : w0 = (.long i0) := Option.some.inj ei0
  obtain ⟨i1, ei1⟩ := isL_v g10
  obtain rfl : w1 = (.long i1) := Option.some.inj ei1
  obtain ⟨n, o, h1, h2, h3, _, L, rfl, ⟨rfl, N⟩, hq⟩ := rm0 l s _ hw tables_1 i0 i1 s.heap s.heap.size (Nat.le_refl _) (by decide) (by decide) p e ha hc hk s m _ below hf ((Spec.applies_iff_loose hf).mp happ).1 ⟨rfl, State.Warmed39.refl s, rfl⟩ trivial
  refine ⟨n, _, h1, h2, h3, hpost _ _ _ _ _ _ ⟨Cond.after_iff.mpr rfl, Cond.after_iff.mpr (eq_i res_at (Term.int_eval (1)) rfl), trivial⟩ ⟨hq.1, hq.2.1, (hq.2.2.sift fun y hy => Or.inr (N y hy)).mono (by decide) (by decide)⟩⟩
theorem main_1_1 : Claimed_1_1 := comes_1 fun _ _ _ _ _ _ h hF => ⟨h.1, hF⟩
theorem main_1_2 : Claimed_1_2 := comes_1 fun _ _ _ _ _ _ h hF => ⟨h.2.1, hF⟩
end Jvm.Pilot.@@N@@
namespace Jvm.Pilot.@@N@@
open Jvm Jvm.ClassFile Sem Op Lib Jvm.Free Jvm.Stand Jvm.Pilot.@@N@@.Jvm.D
/-! MADE BY PROGRAM (witnessworld.py) out of the Statement's table words and the real class files: 9 classes; the members and pool entries that the words name. The judged class is class 1, her method 3. -/
namespace start1
open Jvm.ClassFile
def u (s : String) : CpInfo := .utf8 (stringToUtf16 s)
/-- a pool by its gaps: so many unusable entries, then the entry; so many at the end -/
def gap : Nat → List CpInfo → List CpInfo
  | 0, r => r
  | n + 1, r => .unusable :: gap n r
def poolList (es : List (Nat × CpInfo)) (last : Nat) : List CpInfo := es.foldr (fun e r => gap e.1 (e.2 :: r)) (gap last [])
def pool (es : List (Nat × CpInfo)) (last : Nat) : Array CpInfo := ⟨poolList es last⟩
def fileOf (pool : Array CpInfo) (this : Nat) (attrs : Array Attribute := #[]) (ms : Array MethodInfo := #[]) (fl : Nat := 33) (sup : Nat := 0) (ifs : Array Nat := #[]) (fds : Array FieldInfo := #[]) : ClassFile where
  minorVersion := 0
  majorVersion := 65
  constantPool := pool
  accessFlags := fl
  thisClass := this
  superClass := sup
  interfaces := ifs
  fields := fds
  methods := ms
  attributes := attrs
def plain (name : String) (sup : Option ClassId) : Class where
  name := name
  kind := .ordinary
  loader := none
  accessFlags := 33
  super := sup
  interfaces := #[]
  cf := none
  fields := #[]
  methods := #[]
  instanceTypes := #[]
  staticTypes := #[]
  resolved := #[]
  callSites := []
  init := .initialized
  statics := none
  mirror := none

def pool0 : Array CpInfo := pool [(5, u "<init>"), (0, u "()V"), (1, .class_ 10), (1, u "java/lang/Object")] 113

def k0m0 : Method := { name := "<init>", desc := "()V", sig := { parameters := [], returnType := none }, accessFlags := 1, code := none }
/-- java/lang/Object -/
def k0 : Class := { plain "java/lang/Object" none with
  accessFlags := 33
  interfaces := #[]
  cf := some (fileOf pool0 8 #[] #[{ accessFlags := 1, nameIndex := 5, descriptorIndex := 6, attributes := #[] }] 33 0 #[] #[])
  fields := #[]
  methods := #[k0m0]
  instanceTypes := #[]
  staticTypes := #[]
  resolved := Array.replicate 124 none
  statics := none }

def pool1 : Array CpInfo := pool [(2, .class_ 4), (1, u "java/lang/Object"), (0, u "<init>"), (0, u "()V"), (0, .long 2), (1, .class_ 10), (0, u "com/example/libsynopsis/libsynopsis/hashing/XxHash64AvalanchePinLaw"), (0, .long 1609587929392839161), (1, .methodref 9 14), (0, .nameAndType 15 16), (0, u "oddInverse"), (0, u "(J)J"), (0, .long 14029467366897019727), (1, .methodref 20 21), (0, .class_ 22), (0, .nameAndType 23 16), (0, u "com/example/libsynopsis/libsynopsis/hashing/XxHash64"), (0, u "avalanche"), (0, .methodref 9 25), (0, .nameAndType 26 16), (0, u "unavalanche"), (0, u "P2"), (0, u "J"), (1, u "P3"), (2, u "law"), (0, u "(JJ)Z")] 3

def k1m0 : Method := { name := "<init>", desc := "()V", sig := { parameters := [], returnType := none }, accessFlags := 2, code := none }
def k1c1 : Code := { maxStack := 8, maxLocals := 4, code := method_2_code, exceptionTable := #[], attributes := #[] }
def k1m1 : Method := { name := "oddInverse", desc := "(J)J", sig := { parameters := [.long], returnType := some .long }, accessFlags := 10, code := some k1c1 }
def k1c2 : Code := { maxStack := 5, maxLocals := 10, code := method_3_code, exceptionTable := #[], attributes := #[] }
def k1m2 : Method := { name := "unavalanche", desc := "(J)J", sig := { parameters := [.long], returnType := some .long }, accessFlags := 10, code := some k1c2 }
def k1c3 : Code := { maxStack := 4, maxLocals := 6, code := code, exceptionTable := #[], attributes := #[] }
def k1m3 : Method := { name := "law", desc := "(JJ)Z", sig := { parameters := [.long, .long], returnType := some .boolean }, accessFlags := 9, code := some k1c3 }
/-- com/example/libsynopsis/libsynopsis/hashing/XxHash64AvalanchePinLaw -/
def k1 : Class := { plain "com/example/libsynopsis/libsynopsis/hashing/XxHash64AvalanchePinLaw" (some 0) with
  accessFlags := 49
  interfaces := #[]
  cf := some (fileOf pool1 9 #[] #[{ accessFlags := 2, nameIndex := 5, descriptorIndex := 6, attributes := #[] }, { accessFlags := 10, nameIndex := 15, descriptorIndex := 16, attributes := #[] }, { accessFlags := 10, nameIndex := 26, descriptorIndex := 16, attributes := #[] }, { accessFlags := 9, nameIndex := 33, descriptorIndex := 34, attributes := #[] }] 49 2 #[] #[{ accessFlags := 26, nameIndex := 27, descriptorIndex := 28, attributes := #[] }, { accessFlags := 26, nameIndex := 30, descriptorIndex := 28, attributes := #[] }])
  fields := #[{ name := "P2", type := .long, accessFlags := 26, slot := 0, constantValue := 0 }, { name := "P3", type := .long, accessFlags := 26, slot := 1, constantValue := 0 }]
  methods := #[k1m0, k1m1, k1m2, k1m3]
  instanceTypes := #[]
  staticTypes := #[.long, .long]
  resolved := Array.replicate 38 none
  statics := none }

def pool2 : Array CpInfo := pool [(2, .class_ 4), (1, u "java/lang/Object"), (0, u "<init>"), (0, u "()V"), (1, .class_ 10), (1, u "com/example/libsynopsis/libsynopsis/hashing/XxHash64"), (19, u "avalanche"), (0, u "(J)J"), (25, .long 14029467366897019727), (3, u "LONG_LE"), (0, u "Ljava/lang/invoke/VarHandle;"), (27, u "INT_LE"), (9, .long 1609587929392839161), (19, u "PRIME_1"), (0, u "J"), (1, u "PRIME_2"), (0, u "PRIME_3"), (0, u "PRIME_4"), (0, u "PRIME_5"), (0, u "STRIPE_BYTES"), (0, u "I")] 10

def k2m0 : Method := { name := "<init>", desc := "()V", sig := { parameters := [], returnType := none }, accessFlags := 2, code := none }
def k2c1 : Code := { maxStack := 5, maxLocals := 4, code := prog_43_method_13_code, exceptionTable := #[], attributes := #[] }
def k2m1 : Method := { name := "avalanche", desc := "(J)J", sig := { parameters := [.long], returnType := some .long }, accessFlags := 8, code := some k2c1 }
/-- com/example/libsynopsis/libsynopsis/hashing/XxHash64 -/
def k2 : Class := { plain "com/example/libsynopsis/libsynopsis/hashing/XxHash64" (some 0) with
  accessFlags := 49
  interfaces := #[]
  cf := some (fileOf pool2 8 #[] #[{ accessFlags := 2, nameIndex := 5, descriptorIndex := 6, attributes := #[] }, { accessFlags := 8, nameIndex := 30, descriptorIndex := 31, attributes := #[] }] 49 2 #[] #[{ accessFlags := 26, nameIndex := 120, descriptorIndex := 121, attributes := #[] }, { accessFlags := 26, nameIndex := 123, descriptorIndex := 121, attributes := #[] }, { accessFlags := 26, nameIndex := 124, descriptorIndex := 121, attributes := #[] }, { accessFlags := 26, nameIndex := 125, descriptorIndex := 121, attributes := #[] }, { accessFlags := 26, nameIndex := 126, descriptorIndex := 121, attributes := #[] }, { accessFlags := 26, nameIndex := 127, descriptorIndex := 128, attributes := #[] }, { accessFlags := 26, nameIndex := 61, descriptorIndex := 62, attributes := #[] }, { accessFlags := 26, nameIndex := 90, descriptorIndex := 62, attributes := #[] }])
  fields := #[{ name := "PRIME_1", type := .long, accessFlags := 26, slot := 0, constantValue := 0 }, { name := "PRIME_2", type := .long, accessFlags := 26, slot := 1, constantValue := 0 }, { name := "PRIME_3", type := .long, accessFlags := 26, slot := 2, constantValue := 0 }, { name := "PRIME_4", type := .long, accessFlags := 26, slot := 3, constantValue := 0 }, { name := "PRIME_5", type := .long, accessFlags := 26, slot := 4, constantValue := 0 }, { name := "STRIPE_BYTES", type := .int, accessFlags := 26, slot := 5, constantValue := 0 }, { name := "LONG_LE", type := (.object "java/lang/invoke/VarHandle"), accessFlags := 26, slot := 6, constantValue := 0 }, { name := "INT_LE", type := (.object "java/lang/invoke/VarHandle"), accessFlags := 26, slot := 7, constantValue := 0 }]
  methods := #[k2m0, k2m1]
  instanceTypes := #[]
  staticTypes := #[.long, .long, .long, .long, .long, .int, (.object "java/lang/invoke/VarHandle"), (.object "java/lang/invoke/VarHandle")]
  resolved := Array.replicate 139 none
  statics := none }

def pool3 : Array CpInfo := pool [(1, u "java/lang/Cloneable"), (0, .class_ 1), (0, u "java/lang/Object"), (0, .class_ 3)] 3

/-- java/lang/Cloneable -/
def k3 : Class := { plain "java/lang/Cloneable" (some 0) with
  accessFlags := 1537
  interfaces := #[]
  cf := some (fileOf pool3 2 #[] #[] 1537 4 #[] #[])
  fields := #[]
  methods := #[]
  instanceTypes := #[]
  staticTypes := #[]
  resolved := Array.replicate 8 none
  statics := none }

def pool4 : Array CpInfo := pool [(1, u "java/io/Serializable"), (0, .class_ 1), (0, u "java/lang/Object"), (0, .class_ 3)] 3

/-- java/io/Serializable -/
def k4 : Class := { plain "java/io/Serializable" (some 0) with
  accessFlags := 1537
  interfaces := #[]
  cf := some (fileOf pool4 2 #[] #[] 1537 4 #[] #[])
  fields := #[]
  methods := #[]
  instanceTypes := #[]
  staticTypes := #[]
  resolved := Array.replicate 8 none
  statics := none }

/-- the primitive byte -/
def k5 : Class := { plain "byte" none with kind := .primitive 'B', accessFlags := 0x411 }
/-- [B -/
def k6 : Class := { plain "[B" (some 0) with kind := .array 5 .byte, interfaces := #[3, 4], accessFlags := 1041 }

/-- the primitive int -/
def k7 : Class := { plain "int" none with kind := .primitive 'I', accessFlags := 0x411 }
/-- [I -/
def k8 : Class := { plain "[I" (some 0) with kind := .array 7 .int, interfaces := #[3, 4], accessFlags := 1041 }

def heap : Heap := #[]
def classes : Array Class := #[k0, k1, k2, k3, k4, k5, k6, k7, k8]
def interned : List (Array UInt16 × Addr) := []
def slotsUsed : Nat := 0
def theMethod : MethodId := ⟨1, 3⟩
def args0 : Array Value := #[.long 5, .long 7]
def aboutOver (below : List Frame) : State where
  vm := { classes := classes, interned := interned.toArray }
  heap := heap
  slotsUsed := slotsUsed
  threads := #[{ frames := .invoking theMethod args0 :: below }]
def below0 : List Frame := [.native { method := ⟨0, 0⟩, args := #[] }]
def about1 : State := aboutOver below0
def p0 : Program := .bare "" "" ""
def e0 : Env := launch0.env 0 0 0
theorem w_frames : about1.frames = Frame.invoking theMethod args0 :: below0 := rfl
set_option maxRecDepth 65536 in
theorem w_args : argsFit about1.vm theMethod args0 = true := by decide +kernel
set_option maxRecDepth 65536 in
theorem w_heap : heapFits about1 = true := by decide +kernel
set_option maxRecDepth 65536 in
theorem w_runnable : about1.curStatus? = some .runnable := by decide +kernel
set_option maxRecDepth 65536 in
theorem w_alone : about1.alone = true := by decide +kernel
set_option maxRecDepth 65536 in
theorem w_named : about1.methodNamed? x = some theMethod := by decide +kernel
set_option maxRecDepth 65536 in
theorem w_hears : about1.hears theMethod below0 = true := by decide +kernel
set_option maxRecDepth 65536 in
theorem w_ripe : about1.ripe theMethod args0 below0 = true := by decide +kernel
theorem w_running : about1.status = .running := rfl
set_option maxRecDepth 65536 in
theorem w_room : about1.hasRoom e0.platform room_1 = true :=
  launch0.hasRoom_least _ room_1 (by decide +kernel) (by decide +kernel) (by decide +kernel) (by decide +kernel) (by decide +kernel) (by decide +kernel)
theorem allAtoms_all (ts : List Jvm.Cond) (a : Array Jvm.Value) (st : Jvm.State) : (allAtoms ts).before a st = ts.all (fun c => c.before a st) := by
  induction ts with
  | nil => rfl
  | cons c t ih =>
    show (Jvm.Cond.and c (allAtoms t)).before a st = _
    rw [Jvm.Cond.before_and, ih, List.all_cons]
def words1 : List Jvm.Cond := Jvm.Cond.code x code maxLocals ret :: tables_1
/-- a 'code' word, met by the world's own term for the bytes: nothing is compared byte by byte -/
theorem code_word {y : MethodName} {bytes : ByteArray} {mx : Nat} {rt : Option FieldType} {a : Array Value} {s : State} {m : MethodId} {meth : Method} {c : Code} (h1 : s.methodNamed? y = some m) (h2 : s.vm.method? m = some meth) (h3 : meth.code = some c) (h4 : c.code = bytes)
    (h5 : (c.maxLocals == mx && c.exceptionTable.isEmpty && decide (c.maxStack ≤ mostOperands) && decide (meth.sig.returnType = rt) && !meth.locks && decide (parseMethodDescriptor y.desc = some meth.sig)) = true) : (Jvm.Cond.code y bytes mx rt).before a s = true := by
  simp only [Bool.and_eq_true, beq_iff_eq, Bool.not_eq_true', decide_eq_true_eq] at h5
  obtain ⟨⟨⟨⟨⟨g1, g2⟩, g3⟩, g4⟩, g5⟩, g6⟩ := h5
  simp [Cond.before, Cond.holds, Cond.value, h1, h2, h3, h4, g1, g2, g3, g4, g5, g6]
def isCode : Jvm.Cond → Bool
  | .code _ _ _ _ => true
  | _ => false
theorem all_split {L : List Jvm.Cond} {P : Jvm.Cond → Bool} (h1 : L.all (fun c => isCode c || P c) = true) (h2 : ∀ c ∈ L.filter isCode, P c = true) : L.all P = true := by
  refine List.all_eq_true.mpr fun c hc => ?_
  have h := List.all_eq_true.mp h1 c hc
  rcases Bool.eq_false_or_eq_true (isCode c) with hi | hi
  · exact h2 c (List.mem_filter.mpr ⟨hc, hi⟩)
  · simpa [hi] using h
set_option maxRecDepth 65536 in
theorem w_c0 : (Jvm.Cond.code x code maxLocals ret).before args0 about1 = true := code_word (m := ⟨1, 3⟩) (meth := k1m3) (c := k1c3) (by decide +kernel) rfl rfl rfl (by decide +kernel)
set_option maxRecDepth 65536 in
theorem w_c1 : (Jvm.Cond.code ({ cls := "com/example/libsynopsis/libsynopsis/hashing/XxHash64", name := "avalanche", desc := "(J)J" } : Jvm.MethodName) prog_43_method_13_code (4 : Nat) (Option.some Jvm.ClassFile.FieldType.long)).before args0 about1 = true := code_word (m := ⟨2, 1⟩) (meth := k2m1) (c := k2c1) (by decide +kernel) rfl rfl rfl (by decide +kernel)
set_option maxRecDepth 65536 in
theorem w_c2 : (Jvm.Cond.code ({ cls := "com/example/libsynopsis/libsynopsis/hashing/XxHash64AvalanchePinLaw", name := "unavalanche", desc := "(J)J" } : Jvm.MethodName) method_3_code (10 : Nat) (Option.some Jvm.ClassFile.FieldType.long)).before args0 about1 = true := code_word (m := ⟨1, 2⟩) (meth := k1m2) (c := k1c2) (by decide +kernel) rfl rfl rfl (by decide +kernel)
set_option maxRecDepth 65536 in
theorem w_c3 : (Jvm.Cond.code ({ cls := "com/example/libsynopsis/libsynopsis/hashing/XxHash64AvalanchePinLaw", name := "oddInverse", desc := "(J)J" } : Jvm.MethodName) method_2_code (4 : Nat) (Option.some Jvm.ClassFile.FieldType.long)).before args0 about1 = true := code_word (m := ⟨1, 1⟩) (meth := k1m1) (c := k1c1) (by decide +kernel) rfl rfl rfl (by decide +kernel)
def codes1 : List Jvm.Cond := [Jvm.Cond.code x code maxLocals ret, Jvm.Cond.code ({ cls := "com/example/libsynopsis/libsynopsis/hashing/XxHash64", name := "avalanche", desc := "(J)J" } : Jvm.MethodName) prog_43_method_13_code (4 : Nat) (Option.some Jvm.ClassFile.FieldType.long), Jvm.Cond.code ({ cls := "com/example/libsynopsis/libsynopsis/hashing/XxHash64AvalanchePinLaw", name := "unavalanche", desc := "(J)J" } : Jvm.MethodName) method_3_code (10 : Nat) (Option.some Jvm.ClassFile.FieldType.long), Jvm.Cond.code ({ cls := "com/example/libsynopsis/libsynopsis/hashing/XxHash64AvalanchePinLaw", name := "oddInverse", desc := "(J)J" } : Jvm.MethodName) method_2_code (4 : Nat) (Option.some Jvm.ClassFile.FieldType.long)]
set_option maxRecDepth 65536 in
theorem codes_eq : words1.filter isCode = codes1 := rfl
theorem w_codes : ∀ c ∈ words1.filter isCode, c.before args0 about1 = true := by
  rw [codes_eq]
  intro c hc
  simp only [codes1, List.mem_cons, List.not_mem_nil, or_false] at hc
  rcases hc with rfl | rfl | rfl | rfl
  · exact w_c0
  · exact w_c1
  · exact w_c2
  · exact w_c3
set_option maxRecDepth 65536 in
theorem w_t1 : words1.all (fun c => isCode c || c.before args0 about1) = true := by decide +kernel
theorem w_tables : (allAtoms (Jvm.Cond.code x code maxLocals ret :: tables_1)).before args0 about1 = true := by
  rw [allAtoms_all]
  show words1.all (fun c => c.before args0 about1) = true
  refine all_split ?_ w_codes
  rw [w_t1]
set_option maxRecDepth 65536 in
theorem w_case : (Jvm.Cond.and given_1 narrow_1).before args0 about1 = true := by decide +kernel
theorem w_applies : (headSpec (Jvm.Cond.code x code maxLocals ret :: tables_1) room_1).applies x e0.platform about1 = true :=
  (Spec.applies_iff w_frames).mpr ⟨w_running, w_runnable, w_alone, w_named, w_hears, w_ripe, w_room, w_tables⟩
theorem atStart : AtStart classFile x code maxLocals ret World_1 tables_1 room_1 Calls_1 rest_1 Pre_1 launch0 p0 e0 about1 theMethod args0 below0 :=
  ⟨lists_1, trivial, launch0.admits_env _ _ _, launch0.least_env, fairChoices_fair.cas, fairChoices_fair.clock, w_frames, w_args, w_heap, w_applies, trivial, trivial, w_case⟩
end start1
theorem witness_1 : WitnessClaimed_1 := ⟨start1.p0, start1.e0, start1.about1, start1.theMethod, start1.args0, start1.below0, start1.atStart⟩
end Jvm.Pilot.@@N@@
