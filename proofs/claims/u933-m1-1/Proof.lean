import JvmDerived
import JvmDerived.Pilot.@@N@@Statement
import JvmDerived.Pilot.@@N@@Code
set_option linter.unusedVariables false
set_option linter.unusedSimpArgs false
namespace Jvm.RoadKit
open Sem ClassFile Op Lib Jvm.Stand Jvm.Free Jvm.LawKit
section New
variable {p : Program} {l : Launch} {e : Env} {R : Room} {s : State} {m : MethodId} {args : Array Value} {below : List Frame} {meth : Method} {c : Code} {T : State} {locs : List Loc} {cells slots : Nat}
theorem retI (X : Stand p l e R s m args below meth c T locs cells slots) (hx : p.tables.exec = Jvm.exec) {pc : Nat} {Ls : Array Slot} {z : Int32} {rest : List Value} (hret : meth.sig.returnType = some .int) (hd : decode c.code pc = .ok (.ireturn, 1)) {fs : List Frame}
    (hl : ∀ (f : JFrame) (acts : List Action), f.method = m → f.locked = none → f.entered = [] → (doReturn e (T.setTop f) acts (some (.int z))).1 = T.setFrames fs) : Steps p.tables e below (T.setTop (mkF m pc Ls (.int z :: rest))) (T.setFrames fs) := by
  have hm' : T.vm.method? m = some meth := X.method'
  have hn : narrow .int (.int z) = .int z := rfl
  show Steps p.tables e below (T.setTop { method := m, pc := pc, locals := Ls, stack := _ :: rest, locked := none }) _
  jvm_step X.here [X.here.top, hx, hd, hm', hret, hn]
  first | (intro acts; rw [hl _ acts rfl rfl rfl]) | rw [hl _ _ rfl rfl rfl]
  exact Steps.refl _
end New
end Jvm.RoadKit
namespace Jvm.Pilot.@@N@@
open Jvm Jvm.ClassFile Sem Op Lib Jvm.Free Jvm.Stand Jvm.LawKit Jvm.RoadKit Bundle Jvm.Pilot.@@N@@.Jvm.D

theorem own_kp {h h' : Heap} (g : h' = h) : Keep h h' [] := by subst g; exact Keep.refl _ _
theorem own_kq {h h' : Heap} (ws : List Addr) (g : h' = h) : Keep h h' ws := by subst g; exact Keep.refl _ _
theorem own_fk {Z : State} {h h' : Heap} {a : Addr} {C n d : String} {v : Value} (F : Fld Z h a C n d v) (g : h' = h) : Fld Z h' a C n d v := by subst g; exact F
theorem own_ek {Z : State} {h h' : Heap} {a : Addr} {C : String} (F : Exa Z h a C) (g : h' = h) : Exa Z h' a C := by subst g; exact F
theorem own_zk {n : Nat} {h h' : Heap} (F : n ≤ h.size) (g : h' = h) : n ≤ h'.size := by subst g; exact F

def own_cmp (a b : Int32) : Int32 := if a < b then -1 else if a = b then 0 else 1
def own_sgn (a : Int32) : Int32 := if a < 0 then -1 else if 0 < a then 1 else 0
def own_cto (la ca lb cb : Int32) : Int32 := if la = lb then own_cmp ca cb else own_cmp la lb
/-- what the law expects -/
def own_exp (la ca lb cb : Int32) : Int32 := if la < lb then -1 else if lb < la then 1 else if ca < cb then -1 else if cb < ca then 1 else 0
theorem own_sc (a b : Int32) : own_sgn (own_cmp a b) = own_cmp a b := by
  unfold own_cmp
  split
  · rfl
  · split <;> rfl
theorem own_lt_ne {a b : Int32} (h : a < b) : ¬ a = b := fun e => by subst e; rw [Int32.lt_iff_toInt_lt] at h; omega
theorem own_eq {a b : Int32} (h1 : ¬ a < b) (h2 : ¬ b < a) : a = b := Int32.le_antisymm (Int32.not_lt.mp h2) (Int32.not_lt.mp h1)
theorem own_asym {a b : Int32} (h : a < b) : ¬ b < a := fun k => by rw [Int32.lt_iff_toInt_lt] at h k; omega
theorem own_cmp_exp (a b : Int32) : own_cmp a b = if a < b then -1 else if b < a then 1 else 0 := by
  unfold own_cmp
  by_cases h : a < b
  · simp [h]
  · by_cases k : b < a
    · have this : ¬ a = b := fun e => own_lt_ne k e.symm
      simp [h, k, this]
    · simp [h, k, own_eq h k]
theorem own_1 (la ca lb cb : Int32) : own_sgn (own_cto la ca lb cb) = own_exp la ca lb cb := by
  unfold own_cto own_exp
  by_cases e : la = lb
  · subst e
    rw [if_pos rfl, own_sc, own_cmp_exp]; simp
  · rw [if_neg e, own_sc, own_cmp_exp]
    by_cases h : la < lb
    · simp [h]
    · by_cases k : lb < la
      · simp [h, k]
      · exact absurd (own_eq h k) e
theorem own_neg (la ca lb cb : Int32) : own_exp lb cb la ca = -own_exp la ca lb cb := by
  unfold own_exp
  by_cases h : la < lb
  · simp [h, own_asym h]
  · by_cases k : lb < la
    · simp [h, k]
    · by_cases h2 : ca < cb
      · simp [h, k, h2, own_asym h2]
      · by_cases k2 : cb < ca
        · simp [h, k, h2, k2]
        · simp [h, k, h2, k2]
theorem own_2 (la ca lb cb : Int32) : own_sgn (own_cto lb cb la ca) = -own_exp la ca lb cb := by rw [own_1, own_neg]
theorem own_3 (la ca : Int32) : own_sgn (own_cto la ca la ca) = 0 := by rw [own_1]; simp [own_exp]
theorem d2_0 : decode jdk_30_method_1_code 0 = .ok (.aload_n 0, 1) := by decide +kernel
theorem d2_1 : decode jdk_30_method_1_code 1 = .ok (.invokespecial 1, 3) := by decide +kernel
theorem d2_4 : decode jdk_30_method_1_code 4 = .ok (.return_, 1) := by decide +kernel
theorem pn_2 : plainName "java/lang/Record" = true := by first | (simp [plainName, overriddenIn]; done) | decide +kernel
theorem ef_2 (m : MethodId) (x0 : Addr) : entryFrame m #[(.ref x0)] 1 = mkF m 0 #[.val (.ref x0)] [] := by first | (simp [entryFrame, mkF, argsToLocals, Value.category]; done) | rfl
def Q2 (Z : State) (a1 : Addr) (h0 : Heap) (n0 : Nat) (v : Option Value) (h : Heap) (L : List Loc) : Prop := v = none ∧ Fr n0 L ∧ h = h0
set_option maxRecDepth 65536 in
set_option maxHeartbeats 40000000 in
theorem rm2 (l : Launch) (Z : State) (a0 : Array Value) (hw : ∀ d ∈ tables_1, d.before a0 Z = true) (ws : List Jvm.Cond) (a1 : Addr) (h0 : Heap) (n0 : Nat) (Z0 : n0 ≤ h0.size) :
    MetFree l (⟨"java/lang/Record", "<init>", "()V"⟩ : MethodName) (head1 (Jvm.Cond.code (⟨"java/lang/Record", "<init>", "()V"⟩ : MethodName) jdk_30_method_1_code 1 none :: ws) ({ frames := 1, cells := 0, slots := 0, locals := 12 } : Room)) (fun a U => a = #[(.ref a1)] ∧ Z.Warmed39 U.vm ∧ U.heap = h0) (fun _ _ _ _ _ => True) (fun _ U o U' => ∃ v L, o = .returned v ∧ Q2 Z a1 h0 n0 v U'.heap L ∧ FrameEnd U o U' L ({ frames := 1, cells := 0, slots := 0, locals := 12 } : Room).cells ({ frames := 1, cells := 0, slots := 0, locals := 12 } : Room).slots) := by
  refine MetFree.of_bodySF (plainFor_of_name pn_2) hisR ?_
  intro p e s m args below meth c s₁ Bd hml0 hP hK
  obtain ⟨rfl, hZ, hh⟩ := hP
  have hx := Bd.exec
  have hby := Bd.bytes
  have hml : c.maxLocals = 1 := hml0
  have hown : s.vm.findClass "java/lang/Record" = some m.cls := findClass_of_methodNamed Bd.named
  have hnm := (name_of_methodNamed Bd.named Bd.method).1
  have X0 : Stand p l e ({ frames := 1, cells := 0, slots := 0, locals := 12 } : Room) s m #[(.ref a1)] below meth c s₁ [] 0 0 := Stand.of_body Bd
  have e0 : s₁.heap = h0 := by rw [← hh, Bd.state]; rfl
  have N0 := Fr.nil n0
  have pre0 : ∀ t, Steps p.tables e below (s₁.setTop (mkF m 0 #[.val (.ref a1)] [])) t → Steps p.tables e below (s₁.setTop (entryFrame m #[(.ref a1)] 1)) t := fun t k => castTop (ef_2 m a1) k
  obtain ⟨T2, X2, e2, st2⟩ := initO X0 hx hZ hown (hw _ (List.mem_of_getElem? (i := 11) rfl)) (hw _ (List.mem_of_getElem? (i := 12) rfl)) (hw _ (List.mem_of_getElem? (i := 13) rfl)) e0 (g := (mkF m 1 #[.val (.ref a1)] [(.ref a1)])) rfl (by rw [hml]; rfl) rfl (hb hby d2_1) (by decide) (W := 0) (by show 2 * 0 + _ ≤ _; exact Nat.le_of_eq rfl) (by decide)
  obtain ⟨fs, hr, hrun, hended, hW, hsame⟩ := X2.leave (v := none) (fun _ => rfl)
  refine ⟨_, _, pre0 _ ?_, hrun, hended, _, _, rfl, ?_, ⟨_, rfl⟩, hW, hsame.mono (by decide) (by decide)⟩
  · show Steps p.tables e below (s₁.setTop (mkF m 0 #[.val (.ref a1)] [])) _
    refine XS.aloadN X0.here hx rfl (hb hby d2_0) rfl rfl ?_
    show Steps p.tables e below (s₁.setTop (mkF m 1 #[.val (.ref a1)] [(.ref a1)])) _
    refine st2 _ ?_
    show Steps p.tables e below (T2.setTop (mkF m 4 #[.val (.ref a1)] [])) _
    exact X2.returnOut hx Bd.returns (hb hby d2_4) hr
  · show Q2 Z a1 h0 n0 _ T2.heap _
    rw [e2]
    exact ⟨rfl, N0, rfl⟩
theorem d1_0 : decode prog_50_method_1_code 0 = .ok (.aload_n 0, 1) := by decide +kernel
theorem d1_1 : decode prog_50_method_1_code 1 = .ok (.invokespecial 1, 3) := by decide +kernel
theorem d1_4 : decode prog_50_method_1_code 4 = .ok (.aload_n 0, 1) := by decide +kernel
theorem d1_5 : decode prog_50_method_1_code 5 = .ok (.iload_n 1, 1) := by decide +kernel
theorem d1_6 : decode prog_50_method_1_code 6 = .ok (.putfield 7, 3) := by decide +kernel
theorem d1_9 : decode prog_50_method_1_code 9 = .ok (.aload_n 0, 1) := by decide +kernel
theorem d1_10 : decode prog_50_method_1_code 10 = .ok (.iload_n 2, 1) := by decide +kernel
theorem d1_11 : decode prog_50_method_1_code 11 = .ok (.putfield 13, 3) := by decide +kernel
theorem d1_14 : decode prog_50_method_1_code 14 = .ok (.return_, 1) := by decide +kernel
theorem pn_1 : plainName "com/example/descender/descender/Position" = true := by first | (simp [plainName, overriddenIn]; done) | decide +kernel
theorem pd_0 : parseMethodDescriptor "()V" = some ⟨[], none⟩ := by decide +kernel
theorem ef_1 (m : MethodId) (x0 : Addr) (x1 : Int32) (x2 : Int32) : entryFrame m #[(.ref x0), (.int x1), (.int x2)] 3 = mkF m 0 #[.val (.ref x0), .val (.int x1), .val (.int x2)] [] := by first | (simp [entryFrame, mkF, argsToLocals, Value.category]; done) | rfl
def Q1 (Z : State) (a1 : Addr) (p2 : Int32) (p3 : Int32) (u_line_a1 : Value) (u_column_a1 : Value) (h0 : Heap) (n0 : Nat) (v : Option Value) (h : Heap) (L : List Loc) : Prop := v = none ∧ Fr n0 L ∧ Keep h0 h [a1] ∧ Exa Z h a1 "com/example/descender/descender/Position" ∧ Fld Z h a1 "com/example/descender/descender/Position" "line" "I" (.int p2) ∧ Fld Z h a1 "com/example/descender/descender/Position" "column" "I" (.int p3)
set_option maxRecDepth 65536 in
set_option maxHeartbeats 40000000 in
theorem rm1 (l : Launch) (Z : State) (a0 : Array Value) (hw : ∀ d ∈ tables_1, d.before a0 Z = true) (ws : List Jvm.Cond) (a1 : Addr) (p2 : Int32) (p3 : Int32) (u_line_a1 : Value) (u_column_a1 : Value) (h0 : Heap) (n0 : Nat) (Z0 : n0 ≤ h0.size) (E_a1 : Exa Z h0 a1 "com/example/descender/descender/Position") (F_line_a1 : Fld Z h0 a1 "com/example/descender/descender/Position" "line" "I" u_line_a1) (g_a1 : n0 ≤ a1) (F_column_a1 : Fld Z h0 a1 "com/example/descender/descender/Position" "column" "I" u_column_a1) :
    MetFree l (⟨"com/example/descender/descender/Position", "<init>", "(II)V"⟩ : MethodName) (head1 (Jvm.Cond.code (⟨"com/example/descender/descender/Position", "<init>", "(II)V"⟩ : MethodName) prog_50_method_1_code 3 none :: ws) ({ frames := 2, cells := 0, slots := 0, locals := 24 } : Room)) (fun a U => a = #[(.ref a1), (.int p2), (.int p3)] ∧ Z.Warmed39 U.vm ∧ U.heap = h0) (fun _ _ _ _ _ => True) (fun _ U o U' => ∃ v L, o = .returned v ∧ Q1 Z a1 p2 p3 u_line_a1 u_column_a1 h0 n0 v U'.heap L ∧ FrameEnd U o U' L ({ frames := 2, cells := 0, slots := 0, locals := 24 } : Room).cells ({ frames := 2, cells := 0, slots := 0, locals := 24 } : Room).slots) := by
  refine MetFree.of_bodySF (plainFor_of_name pn_1) hisR ?_
  intro p e s m args below meth c s₁ Bd hml0 hP hK
  obtain ⟨rfl, hZ, hh⟩ := hP
  have hx := Bd.exec
  have hby := Bd.bytes
  have hml : c.maxLocals = 3 := hml0
  have hown : s.vm.findClass "com/example/descender/descender/Position" = some m.cls := findClass_of_methodNamed Bd.named
  have hnm := (name_of_methodNamed Bd.named Bd.method).1
  have X0 : Stand p l e ({ frames := 2, cells := 0, slots := 0, locals := 24 } : Room) s m #[(.ref a1), (.int p2), (.int p3)] below meth c s₁ [] 0 0 := Stand.of_body Bd
  have e0 : s₁.heap = h0 := by rw [← hh, Bd.state]; rfl
  have N0 := Fr.nil n0
  have pre0 : ∀ t, Steps p.tables e below (s₁.setTop (mkF m 0 #[.val (.ref a1), .val (.int p2), .val (.int p3)] [])) t → Steps p.tables e below (s₁.setTop (entryFrame m #[(.ref a1), (.int p2), (.int p3)] 3)) t := fun t k => castTop (ef_1 m a1 p2 p3) k
  obtain ⟨_, _, ⟨T4, L4, k4, n4⟩, -, X4, ⟨Lc4, hQ4, l4, y4, z4⟩, st4⟩ := X0.specialBack hx (y := (⟨"java/lang/Record", "<init>", "()V"⟩ : MethodName)) rfl hown (mvT hZ (hw _ (List.mem_of_getElem? (i := 6) rfl))) (mvT hZ (hw _ (List.mem_of_getElem? (i := 7) rfl))) (mvT hZ (hw _ (List.mem_of_getElem? (i := 10) rfl))) (by decide) (backOf (W := 0) (rm2 l Z a0 hw [] a1 h0 n0 Z0) hZ (hw _ (List.mem_of_getElem? (i := 10) rfl)) (hw _ (List.mem_of_getElem? (i := 9) rfl)) (by decide) (by decide)) (g := (mkF m 1 #[.val (.ref a1), .val (.int p2), .val (.int p3)] [(.ref a1)])) rfl (by rw [hml]; rfl) (Steps.refl _) (a := a1) (argsL := []) (rest := []) (lenOf pd_0 rfl) rfl (by show 2 * 0 + _ ≤ _; exact Nat.le_of_eq rfl) (hb hby d1_1) (fun _ _ => ⟨rfl, e0, (by decide : 0 + 0 ≤ _), (by decide : 0 + 0 ≤ _)⟩)
  dsimp only [Pt.U, Pt.locs, Pt.cells, Pt.slots] at X4 l4 y4 z4 st4 hQ4
  subst l4 y4 z4
  obtain ⟨rfl, N4q, g4⟩ := hQ4
  have N4 := Fr.app N0 N4q
  obtain ⟨T5, h5, X5, e5, W5, st5⟩ := putF X4 hx hZ hown (host := "") (Or.inl (hw _ (List.mem_of_getElem? (i := 14) rfl))) Via.refl rfl (F_line_a1.keep (own_kp g4) nin0) (E_a1.keep (own_kp g4)) (Or.inr ⟨(hw _ (List.mem_of_getElem? (i := 15) rfl)), rfl, hnm⟩) (hw _ (List.mem_of_getElem? (i := 1) rfl)) (ty := .int) (by decide) rfl rfl (g := (mkF m 6 #[.val (.ref a1), .val (.int p2), .val (.int p3)] [(.int p2), (.ref a1)])) rfl rfl (hb hby d1_6)
  have Fw5 := (F_line_a1.keep (own_kp g4) nin0).same W5
  have K5 : Keep h0 h5 [a1] := (own_kq [a1] g4).wr W5 (Or.inl (List.mem_of_getElem? (i := 0) rfl))
  have N5 := Fr.snoc X5 N4 g_a1
  obtain ⟨T6, h6, X6, e6, W6, st6⟩ := putF X5 hx hZ hown (host := "") (Or.inl (hw _ (List.mem_of_getElem? (i := 16) rfl))) Via.refl e5 ((F_column_a1.keep (own_kp g4) nin0).other W5 (Or.inr (slot_ne (Or.inr (hw _ (List.mem_of_getElem? (i := 17) rfl))) (Or.inr (hw _ (List.mem_of_getElem? (i := 15) rfl))) (by decide) (t := .int) (t' := .int) (by decide) (by decide)))) ((E_a1.keep (own_kp g4)).wr W5) (Or.inr ⟨(hw _ (List.mem_of_getElem? (i := 17) rfl)), rfl, hnm⟩) (hw _ (List.mem_of_getElem? (i := 1) rfl)) (ty := .int) (by decide) rfl rfl (g := (mkF m 11 #[.val (.ref a1), .val (.int p2), .val (.int p3)] [(.int p3), (.ref a1)])) rfl rfl (hb hby d1_11)
  have Fw6 := ((F_column_a1.keep (own_kp g4) nin0).other W5 (Or.inr (slot_ne (Or.inr (hw _ (List.mem_of_getElem? (i := 17) rfl))) (Or.inr (hw _ (List.mem_of_getElem? (i := 15) rfl))) (by decide) (t := .int) (t' := .int) (by decide) (by decide)))).same W6
  have K6 : Keep h0 h6 [a1] := K5.wr W6 (Or.inl (List.mem_of_getElem? (i := 0) rfl))
  have N6 := Fr.snoc X6 N5 g_a1
  obtain ⟨fs, hr, hrun, hended, hW, hsame⟩ := X6.leave (v := none) (fun _ => rfl)
  refine ⟨_, _, pre0 _ ?_, hrun, hended, _, _, rfl, ?_, ⟨_, rfl⟩, hW, hsame.mono (by decide) (by decide)⟩
  · show Steps p.tables e below (s₁.setTop (mkF m 0 #[.val (.ref a1), .val (.int p2), .val (.int p3)] [])) _
    refine XS.aloadN X0.here hx rfl (hb hby d1_0) rfl rfl ?_
    show Steps p.tables e below (s₁.setTop (mkF m 1 #[.val (.ref a1), .val (.int p2), .val (.int p3)] [(.ref a1)])) _
    refine st4.trans ?_
    show Steps p.tables e below (T4.setTop (mkF m 4 #[.val (.ref a1), .val (.int p2), .val (.int p3)] [])) _
    refine XS.aloadN X4.here hx rfl (hb hby d1_4) rfl rfl ?_
    show Steps p.tables e below (T4.setTop (mkF m 5 #[.val (.ref a1), .val (.int p2), .val (.int p3)] [(.ref a1)])) _
    refine XS.iloadN X4.here hx rfl (hb hby d1_5) rfl ?_
    show Steps p.tables e below (T4.setTop (mkF m 6 #[.val (.ref a1), .val (.int p2), .val (.int p3)] [(.int p2), (.ref a1)])) _
    refine st5 _ ?_
    show Steps p.tables e below (T5.setTop (mkF m 9 #[.val (.ref a1), .val (.int p2), .val (.int p3)] [])) _
    refine XS.aloadN X5.here hx rfl (hb hby d1_9) rfl rfl ?_
    show Steps p.tables e below (T5.setTop (mkF m 10 #[.val (.ref a1), .val (.int p2), .val (.int p3)] [(.ref a1)])) _
    refine XS.iloadN X5.here hx rfl (hb hby d1_10) rfl ?_
    show Steps p.tables e below (T5.setTop (mkF m 11 #[.val (.ref a1), .val (.int p2), .val (.int p3)] [(.int p3), (.ref a1)])) _
    refine st6 _ ?_
    show Steps p.tables e below (T6.setTop (mkF m 14 #[.val (.ref a1), .val (.int p2), .val (.int p3)] [])) _
    exact X6.returnOut hx Bd.returns (hb hby d1_14) hr
  · show Q1 Z a1 p2 p3 u_line_a1 u_column_a1 h0 n0 _ T6.heap _
    rw [e6]
    exact ⟨rfl, N6, K6, (((E_a1.keep (own_kp g4)).wr W5).wr W6), (Fw5.other W6 (Or.inr (slot_ne (Or.inr (hw _ (List.mem_of_getElem? (i := 15) rfl))) (Or.inr (hw _ (List.mem_of_getElem? (i := 17) rfl))) (by decide) (t := .int) (t' := .int) (by decide) (by decide)))), Fw6⟩
theorem d5_9 : decode jdk_33_method_40_code 9 = .ok (.iload_n 0, 1) := by decide +kernel
theorem d5_10 : decode jdk_33_method_40_code 10 = .ok (.iload_n 1, 1) := by decide +kernel
theorem d5_11 : decode jdk_33_method_40_code 11 = .ok (.if_icmp .ne 7, 3) := by decide +kernel
theorem d5_14 : decode jdk_33_method_40_code 14 = .ok (.iconst 0, 1) := by decide +kernel
theorem d5_15 : decode jdk_33_method_40_code 15 = .ok (.goto 4, 3) := by decide +kernel
theorem d5_18 : decode jdk_33_method_40_code 18 = .ok (.iconst 1, 1) := by decide +kernel
theorem d5_0 : decode jdk_33_method_40_code 0 = .ok (.iload_n 0, 1) := by decide +kernel
theorem d5_1 : decode jdk_33_method_40_code 1 = .ok (.iload_n 1, 1) := by decide +kernel
theorem d5_2 : decode jdk_33_method_40_code 2 = .ok (.if_icmp .ge 7, 3) := by decide +kernel
theorem d5_5 : decode jdk_33_method_40_code 5 = .ok (.iconst (-1), 1) := by decide +kernel
theorem d5_6 : decode jdk_33_method_40_code 6 = .ok (.goto 13, 3) := by decide +kernel
theorem d5_19 : decode jdk_33_method_40_code 19 = .ok (.ireturn, 1) := by decide +kernel
theorem pn_5 : plainName "java/lang/Integer" = true := by first | (simp [plainName, overriddenIn]; done) | decide +kernel
theorem ef_5 (m : MethodId) (x0 : Int32) (x1 : Int32) : entryFrame m #[(.int x0), (.int x1)] 2 = mkF m 0 #[.val (.int x0), .val (.int x1)] [] := by first | (simp [entryFrame, mkF, argsToLocals, Value.category]; done) | rfl
def Q5 (Z : State) (p1 : Int32) (p2 : Int32) (h0 : Heap) (n0 : Nat) (v : Option Value) (h : Heap) (L : List Loc) : Prop := v = some (.int (own_cmp p1 p2)) ∧ Fr n0 L ∧ h = h0
set_option maxRecDepth 65536 in
set_option maxHeartbeats 40000000 in
theorem rm5 (l : Launch) (Z : State) (a0 : Array Value) (hw : ∀ d ∈ tables_1, d.before a0 Z = true) (ws : List Jvm.Cond) (p1 : Int32) (p2 : Int32) (h0 : Heap) (n0 : Nat) (Z0 : n0 ≤ h0.size) :
    MetFree l (⟨"java/lang/Integer", "compare", "(II)I"⟩ : MethodName) (head1 (Jvm.Cond.code (⟨"java/lang/Integer", "compare", "(II)I"⟩ : MethodName) jdk_33_method_40_code 2 (some .int) :: ws) ({ frames := 0, cells := 0, slots := 0, locals := 0 } : Room)) (fun a U => a = #[(.int p1), (.int p2)] ∧ Z.Warmed39 U.vm ∧ U.heap = h0) (fun _ _ _ _ _ => True) (fun _ U o U' => ∃ v L, o = .returned v ∧ Q5 Z p1 p2 h0 n0 v U'.heap L ∧ FrameEnd U o U' L ({ frames := 0, cells := 0, slots := 0, locals := 0 } : Room).cells ({ frames := 0, cells := 0, slots := 0, locals := 0 } : Room).slots) := by
  refine MetFree.of_bodySF (plainFor_of_name pn_5) hisR ?_
  intro p e s m args below meth c s₁ Bd hml0 hP hK
  obtain ⟨rfl, hZ, hh⟩ := hP
  have hx := Bd.exec
  have hby := Bd.bytes
  have hml : c.maxLocals = 2 := hml0
  have hown : s.vm.findClass "java/lang/Integer" = some m.cls := findClass_of_methodNamed Bd.named
  have hnm := (name_of_methodNamed Bd.named Bd.method).1
  have X0 : Stand p l e ({ frames := 0, cells := 0, slots := 0, locals := 0 } : Room) s m #[(.int p1), (.int p2)] below meth c s₁ [] 0 0 := Stand.of_body Bd
  have e0 : s₁.heap = h0 := by rw [← hh, Bd.state]; rfl
  have N0 := Fr.nil n0
  have pre0 : ∀ t, Steps p.tables e below (s₁.setTop (mkF m 0 #[.val (.int p1), .val (.int p2)] [])) t → Steps p.tables e below (s₁.setTop (entryFrame m #[(.int p1), (.int p2)] 2)) t := fun t k => castTop (ef_5 m p1 p2) k
  by_cases hc2 : p1 < p2
  · have hc2_1 : p1 < p2 := hc2
    have st_1p : ∀ target, Steps p.tables e below (s₁.setTop (mkF m 19 #[.val (.int p1), .val (.int p2)] [(.int (-1 : Int32))])) target → Steps p.tables e below (s₁.setTop (mkF m 0 #[.val (.int p1), .val (.int p2)] [])) target := by
      intro target kt
      show Steps p.tables e below (s₁.setTop (mkF m 0 #[.val (.int p1), .val (.int p2)] [])) _
      refine XS.iloadN X0.here hx rfl (hb hby d5_0) rfl ?_
      show Steps p.tables e below (s₁.setTop (mkF m 1 #[.val (.int p1), .val (.int p2)] [(.int p1)])) _
      refine XS.iloadN X0.here hx rfl (hb hby d5_1) rfl ?_
      show Steps p.tables e below (s₁.setTop (mkF m 2 #[.val (.int p1), .val (.int p2)] [(.int p2), (.int p1)])) _
      refine XS.icmpNo X0.here hx rfl (hb hby d5_2) rfl (tlt hc2_1).2.1 ?_
      show Steps p.tables e below (s₁.setTop (mkF m 5 #[.val (.int p1), .val (.int p2)] [])) _
      refine XS.iconst X0.here hx rfl (hb hby d5_5) ?_
      show Steps p.tables e below (s₁.setTop (mkF m 6 #[.val (.int p1), .val (.int p2)] [(.int (-1 : Int32))])) _
      refine XS.goto X0.here hx rfl (pc0 := 6) (pc' := 19) rfl (hb hby d5_6) (by decide) (by decide) ?_
      exact kt
    obtain ⟨fs, hr, hrun, hended, hW, hsame⟩ := X0.leave (v := some (.int (-1 : Int32))) (fun h => by rw [Bd.returns] at h; cases h)
    refine ⟨_, _, pre0 _ ?_, hrun, hended, _, _, rfl, ?_, ⟨_, rfl⟩, hW, hsame.mono (by decide) (by decide)⟩
    · show Steps p.tables e below (s₁.setTop (mkF m 0 #[.val (.int p1), .val (.int p2)] [])) _
      refine st_1p _ ?_
      exact retI X0 hx Bd.returns (hb hby d5_19) hr
    · show Q5 Z p1 p2 h0 n0 _ s₁.heap _
      rw [e0]
      exact ⟨by simp [own_cmp, hc2], N0, rfl⟩
  · by_cases hc11 : p1 = p2
    · have hc2_2 : ¬ (p1 < p2) := hc2
      have hc11_2 : p1 = p2 := hc11
      have st_2p : ∀ target, Steps p.tables e below (s₁.setTop (mkF m 19 #[.val (.int p1), .val (.int p2)] [(.int (0 : Int32))])) target → Steps p.tables e below (s₁.setTop (mkF m 0 #[.val (.int p1), .val (.int p2)] [])) target := by
        intro target kt
        show Steps p.tables e below (s₁.setTop (mkF m 0 #[.val (.int p1), .val (.int p2)] [])) _
        refine XS.iloadN X0.here hx rfl (hb hby d5_0) rfl ?_
        show Steps p.tables e below (s₁.setTop (mkF m 1 #[.val (.int p1), .val (.int p2)] [(.int p1)])) _
        refine XS.iloadN X0.here hx rfl (hb hby d5_1) rfl ?_
        show Steps p.tables e below (s₁.setTop (mkF m 2 #[.val (.int p1), .val (.int p2)] [(.int p2), (.int p1)])) _
        refine XS.icmpYes X0.here hx rfl (pc0 := 2) (pc' := 9) rfl (hb hby d5_2) rfl (flt hc2_2).2.1 (by decide) (by decide) ?_
        show Steps p.tables e below (s₁.setTop (mkF m 9 #[.val (.int p1), .val (.int p2)] [])) _
        refine XS.iloadN X0.here hx rfl (hb hby d5_9) rfl ?_
        show Steps p.tables e below (s₁.setTop (mkF m 10 #[.val (.int p1), .val (.int p2)] [(.int p1)])) _
        refine XS.iloadN X0.here hx rfl (hb hby d5_10) rfl ?_
        show Steps p.tables e below (s₁.setTop (mkF m 11 #[.val (.int p1), .val (.int p2)] [(.int p2), (.int p1)])) _
        refine XS.icmpNo X0.here hx rfl (hb hby d5_11) rfl (teq hc11_2).2 ?_
        show Steps p.tables e below (s₁.setTop (mkF m 14 #[.val (.int p1), .val (.int p2)] [])) _
        refine XS.iconst X0.here hx rfl (hb hby d5_14) ?_
        show Steps p.tables e below (s₁.setTop (mkF m 15 #[.val (.int p1), .val (.int p2)] [(.int (0 : Int32))])) _
        refine XS.goto X0.here hx rfl (pc0 := 15) (pc' := 19) rfl (hb hby d5_15) (by decide) (by decide) ?_
        exact kt
      obtain ⟨fs, hr, hrun, hended, hW, hsame⟩ := X0.leave (v := some (.int (0 : Int32))) (fun h => by rw [Bd.returns] at h; cases h)
      refine ⟨_, _, pre0 _ ?_, hrun, hended, _, _, rfl, ?_, ⟨_, rfl⟩, hW, hsame.mono (by decide) (by decide)⟩
      · show Steps p.tables e below (s₁.setTop (mkF m 0 #[.val (.int p1), .val (.int p2)] [])) _
        refine st_2p _ ?_
        exact retI X0 hx Bd.returns (hb hby d5_19) hr
      · show Q5 Z p1 p2 h0 n0 _ s₁.heap _
        rw [e0]
        exact ⟨by simp [own_cmp, hc2, hc11], N0, rfl⟩
    · have hc2_3 : ¬ (p1 < p2) := hc2
      have hc11_3 : ¬ (p1 = p2) := hc11
      have st_3p : ∀ target, Steps p.tables e below (s₁.setTop (mkF m 19 #[.val (.int p1), .val (.int p2)] [(.int (1 : Int32))])) target → Steps p.tables e below (s₁.setTop (mkF m 0 #[.val (.int p1), .val (.int p2)] [])) target := by
        intro target kt
        show Steps p.tables e below (s₁.setTop (mkF m 0 #[.val (.int p1), .val (.int p2)] [])) _
        refine XS.iloadN X0.here hx rfl (hb hby d5_0) rfl ?_
        show Steps p.tables e below (s₁.setTop (mkF m 1 #[.val (.int p1), .val (.int p2)] [(.int p1)])) _
        refine XS.iloadN X0.here hx rfl (hb hby d5_1) rfl ?_
        show Steps p.tables e below (s₁.setTop (mkF m 2 #[.val (.int p1), .val (.int p2)] [(.int p2), (.int p1)])) _
        refine XS.icmpYes X0.here hx rfl (pc0 := 2) (pc' := 9) rfl (hb hby d5_2) rfl (flt hc2_3).2.1 (by decide) (by decide) ?_
        show Steps p.tables e below (s₁.setTop (mkF m 9 #[.val (.int p1), .val (.int p2)] [])) _
        refine XS.iloadN X0.here hx rfl (hb hby d5_9) rfl ?_
        show Steps p.tables e below (s₁.setTop (mkF m 10 #[.val (.int p1), .val (.int p2)] [(.int p1)])) _
        refine XS.iloadN X0.here hx rfl (hb hby d5_10) rfl ?_
        show Steps p.tables e below (s₁.setTop (mkF m 11 #[.val (.int p1), .val (.int p2)] [(.int p2), (.int p1)])) _
        refine XS.icmpYes X0.here hx rfl (pc0 := 11) (pc' := 18) rfl (hb hby d5_11) rfl (feq hc11_3).2 (by decide) (by decide) ?_
        show Steps p.tables e below (s₁.setTop (mkF m 18 #[.val (.int p1), .val (.int p2)] [])) _
        refine XS.iconst X0.here hx rfl (hb hby d5_18) ?_
        exact kt
      obtain ⟨fs, hr, hrun, hended, hW, hsame⟩ := X0.leave (v := some (.int (1 : Int32))) (fun h => by rw [Bd.returns] at h; cases h)
      refine ⟨_, _, pre0 _ ?_, hrun, hended, _, _, rfl, ?_, ⟨_, rfl⟩, hW, hsame.mono (by decide) (by decide)⟩
      · show Steps p.tables e below (s₁.setTop (mkF m 0 #[.val (.int p1), .val (.int p2)] [])) _
        refine st_3p _ ?_
        exact retI X0 hx Bd.returns (hb hby d5_19) hr
      · show Q5 Z p1 p2 h0 n0 _ s₁.heap _
        rw [e0]
        exact ⟨by simp [own_cmp, hc2, hc11], N0, rfl⟩
theorem d6_6 : decode method_2_code 6 = .ok (.iload_n 0, 1) := by decide +kernel
theorem d6_7 : decode method_2_code 7 = .ok (.ifCond .le 5, 3) := by decide +kernel
theorem d6_10 : decode method_2_code 10 = .ok (.iconst 1, 1) := by decide +kernel
theorem d6_12 : decode method_2_code 12 = .ok (.iconst 0, 1) := by decide +kernel
theorem d6_11 : decode method_2_code 11 = .ok (.ireturn, 1) := by decide +kernel
theorem d6_13 : decode method_2_code 13 = .ok (.ireturn, 1) := by decide +kernel
theorem d6_0 : decode method_2_code 0 = .ok (.iload_n 0, 1) := by decide +kernel
theorem d6_1 : decode method_2_code 1 = .ok (.ifCond .ge 5, 3) := by decide +kernel
theorem d6_4 : decode method_2_code 4 = .ok (.iconst (-1), 1) := by decide +kernel
theorem d6_5 : decode method_2_code 5 = .ok (.ireturn, 1) := by decide +kernel
theorem pn_6 : plainName "com/example/descender/descender/PositionCompareToPinLaw" = true := by first | (simp [plainName, overriddenIn]; done) | decide +kernel
theorem ef_6 (m : MethodId) (x0 : Int32) : entryFrame m #[(.int x0)] 1 = mkF m 0 #[.val (.int x0)] [] := by first | (simp [entryFrame, mkF, argsToLocals, Value.category]; done) | rfl
def Q6 (Z : State) (p1 : Int32) (h0 : Heap) (n0 : Nat) (v : Option Value) (h : Heap) (L : List Loc) : Prop := v = some (.int (own_sgn p1)) ∧ Fr n0 L ∧ h = h0
set_option maxRecDepth 65536 in
set_option maxHeartbeats 40000000 in
theorem rm6 (l : Launch) (Z : State) (a0 : Array Value) (hw : ∀ d ∈ tables_1, d.before a0 Z = true) (ws : List Jvm.Cond) (p1 : Int32) (h0 : Heap) (n0 : Nat) (Z0 : n0 ≤ h0.size) :
    MetFree l (⟨"com/example/descender/descender/PositionCompareToPinLaw", "sgn", "(I)I"⟩ : MethodName) (head1 (Jvm.Cond.code (⟨"com/example/descender/descender/PositionCompareToPinLaw", "sgn", "(I)I"⟩ : MethodName) method_2_code 1 (some .int) :: ws) ({ frames := 0, cells := 0, slots := 0, locals := 0 } : Room)) (fun a U => a = #[(.int p1)] ∧ Z.Warmed39 U.vm ∧ U.heap = h0) (fun _ _ _ _ _ => True) (fun _ U o U' => ∃ v L, o = .returned v ∧ Q6 Z p1 h0 n0 v U'.heap L ∧ FrameEnd U o U' L ({ frames := 0, cells := 0, slots := 0, locals := 0 } : Room).cells ({ frames := 0, cells := 0, slots := 0, locals := 0 } : Room).slots) := by
  refine MetFree.of_bodySF (plainFor_of_name pn_6) hisR ?_
  intro p e s m args below meth c s₁ Bd hml0 hP hK
  obtain ⟨rfl, hZ, hh⟩ := hP
  have hx := Bd.exec
  have hby := Bd.bytes
  have hml : c.maxLocals = 1 := hml0
  have hown : s.vm.findClass "com/example/descender/descender/PositionCompareToPinLaw" = some m.cls := findClass_of_methodNamed Bd.named
  have hnm := (name_of_methodNamed Bd.named Bd.method).1
  have X0 : Stand p l e ({ frames := 0, cells := 0, slots := 0, locals := 0 } : Room) s m #[(.int p1)] below meth c s₁ [] 0 0 := Stand.of_body Bd
  have e0 : s₁.heap = h0 := by rw [← hh, Bd.state]; rfl
  have N0 := Fr.nil n0
  have pre0 : ∀ t, Steps p.tables e below (s₁.setTop (mkF m 0 #[.val (.int p1)] [])) t → Steps p.tables e below (s₁.setTop (entryFrame m #[(.int p1)] 1)) t := fun t k => castTop (ef_6 m p1) k
  by_cases h1 : p1 < (0 : Int32)
  · have hc1_1 : p1 < (0 : Int32) := h1
    have st_1p : ∀ target, Steps p.tables e below (s₁.setTop (mkF m 5 #[.val (.int p1)] [(.int (-1 : Int32))])) target → Steps p.tables e below (s₁.setTop (mkF m 0 #[.val (.int p1)] [])) target := by
      intro target kt
      show Steps p.tables e below (s₁.setTop (mkF m 0 #[.val (.int p1)] [])) _
      refine XS.iloadN X0.here hx rfl (hb hby d6_0) rfl ?_
      show Steps p.tables e below (s₁.setTop (mkF m 1 #[.val (.int p1)] [(.int p1)])) _
      refine XS.ifNo X0.here hx rfl (hb hby d6_1) rfl ((if0 _ _).trans (tlt hc1_1).2.1) ?_
      show Steps p.tables e below (s₁.setTop (mkF m 4 #[.val (.int p1)] [])) _
      refine XS.iconst X0.here hx rfl (hb hby d6_4) ?_
      exact kt
    obtain ⟨fs, hr, hrun, hended, hW, hsame⟩ := X0.leave (v := some (.int (-1 : Int32))) (fun h => by rw [Bd.returns] at h; cases h)
    refine ⟨_, _, pre0 _ ?_, hrun, hended, _, _, rfl, ?_, ⟨_, rfl⟩, hW, hsame.mono (by decide) (by decide)⟩
    · show Steps p.tables e below (s₁.setTop (mkF m 0 #[.val (.int p1)] [])) _
      refine st_1p _ ?_
      exact retI X0 hx Bd.returns (hb hby d6_5) hr
    · show Q6 Z p1 h0 n0 _ s₁.heap _
      rw [e0]
      exact ⟨by simp [own_sgn, h1], N0, rfl⟩
  · by_cases h2 : (0 : Int32) < p1
    · have hc1_2 : ¬ (p1 < (0 : Int32)) := h1
      have hc7_2 : (0 : Int32) < p1 := h2
      have st_2p : ∀ target, Steps p.tables e below (s₁.setTop (mkF m 11 #[.val (.int p1)] [(.int (1 : Int32))])) target → Steps p.tables e below (s₁.setTop (mkF m 0 #[.val (.int p1)] [])) target := by
        intro target kt
        show Steps p.tables e below (s₁.setTop (mkF m 0 #[.val (.int p1)] [])) _
        refine XS.iloadN X0.here hx rfl (hb hby d6_0) rfl ?_
        show Steps p.tables e below (s₁.setTop (mkF m 1 #[.val (.int p1)] [(.int p1)])) _
        refine XS.ifYes X0.here hx rfl (pc0 := 1) (pc' := 6) rfl (hb hby d6_1) rfl ((if0 _ _).trans (flt hc1_2).2.1) (by decide) (by decide) ?_
        show Steps p.tables e below (s₁.setTop (mkF m 6 #[.val (.int p1)] [])) _
        refine XS.iloadN X0.here hx rfl (hb hby d6_6) rfl ?_
        show Steps p.tables e below (s₁.setTop (mkF m 7 #[.val (.int p1)] [(.int p1)])) _
        refine XS.ifNo X0.here hx rfl (hb hby d6_7) rfl ((if0 _ _).trans (tlt hc7_2).2.2.2) ?_
        show Steps p.tables e below (s₁.setTop (mkF m 10 #[.val (.int p1)] [])) _
        refine XS.iconst X0.here hx rfl (hb hby d6_10) ?_
        exact kt
      obtain ⟨fs, hr, hrun, hended, hW, hsame⟩ := X0.leave (v := some (.int (1 : Int32))) (fun h => by rw [Bd.returns] at h; cases h)
      refine ⟨_, _, pre0 _ ?_, hrun, hended, _, _, rfl, ?_, ⟨_, rfl⟩, hW, hsame.mono (by decide) (by decide)⟩
      · show Steps p.tables e below (s₁.setTop (mkF m 0 #[.val (.int p1)] [])) _
        refine st_2p _ ?_
        exact retI X0 hx Bd.returns (hb hby d6_11) hr
      · show Q6 Z p1 h0 n0 _ s₁.heap _
        rw [e0]
        exact ⟨by simp [own_sgn, h1, h2], N0, rfl⟩
    · have hc1_3 : ¬ (p1 < (0 : Int32)) := h1
      have hc7_3 : ¬ ((0 : Int32) < p1) := h2
      have st_3p : ∀ target, Steps p.tables e below (s₁.setTop (mkF m 13 #[.val (.int p1)] [(.int (0 : Int32))])) target → Steps p.tables e below (s₁.setTop (mkF m 0 #[.val (.int p1)] [])) target := by
        intro target kt
        show Steps p.tables e below (s₁.setTop (mkF m 0 #[.val (.int p1)] [])) _
        refine XS.iloadN X0.here hx rfl (hb hby d6_0) rfl ?_
        show Steps p.tables e below (s₁.setTop (mkF m 1 #[.val (.int p1)] [(.int p1)])) _
        refine XS.ifYes X0.here hx rfl (pc0 := 1) (pc' := 6) rfl (hb hby d6_1) rfl ((if0 _ _).trans (flt hc1_3).2.1) (by decide) (by decide) ?_
        show Steps p.tables e below (s₁.setTop (mkF m 6 #[.val (.int p1)] [])) _
        refine XS.iloadN X0.here hx rfl (hb hby d6_6) rfl ?_
        show Steps p.tables e below (s₁.setTop (mkF m 7 #[.val (.int p1)] [(.int p1)])) _
        refine XS.ifYes X0.here hx rfl (pc0 := 7) (pc' := 12) rfl (hb hby d6_7) rfl ((if0 _ _).trans (flt hc7_3).2.2.2) (by decide) (by decide) ?_
        show Steps p.tables e below (s₁.setTop (mkF m 12 #[.val (.int p1)] [])) _
        refine XS.iconst X0.here hx rfl (hb hby d6_12) ?_
        exact kt
      obtain ⟨fs, hr, hrun, hended, hW, hsame⟩ := X0.leave (v := some (.int (0 : Int32))) (fun h => by rw [Bd.returns] at h; cases h)
      refine ⟨_, _, pre0 _ ?_, hrun, hended, _, _, rfl, ?_, ⟨_, rfl⟩, hW, hsame.mono (by decide) (by decide)⟩
      · show Steps p.tables e below (s₁.setTop (mkF m 0 #[.val (.int p1)] [])) _
        refine st_3p _ ?_
        exact retI X0 hx Bd.returns (hb hby d6_13) hr
      · show Q6 Z p1 h0 n0 _ s₁.heap _
        rw [e0]
        exact ⟨by simp [own_sgn, h1, h2], N0, rfl⟩
theorem d4_25 : decode prog_50_method_2_code 25 = .ok (.aload_n 0, 1) := by decide +kernel
theorem d4_26 : decode prog_50_method_2_code 26 = .ok (.getfield 13, 3) := by decide +kernel
theorem d4_29 : decode prog_50_method_2_code 29 = .ok (.aload_n 1, 1) := by decide +kernel
theorem d4_30 : decode prog_50_method_2_code 30 = .ok (.getfield 13, 3) := by decide +kernel
theorem d4_33 : decode prog_50_method_2_code 33 = .ok (.invokestatic 16, 3) := by decide +kernel
theorem d4_0 : decode prog_50_method_2_code 0 = .ok (.aload_n 0, 1) := by decide +kernel
theorem d4_1 : decode prog_50_method_2_code 1 = .ok (.getfield 7, 3) := by decide +kernel
theorem d4_4 : decode prog_50_method_2_code 4 = .ok (.aload_n 1, 1) := by decide +kernel
theorem d4_5 : decode prog_50_method_2_code 5 = .ok (.getfield 7, 3) := by decide +kernel
theorem d4_8 : decode prog_50_method_2_code 8 = .ok (.if_icmp .eq 17, 3) := by decide +kernel
theorem d4_11 : decode prog_50_method_2_code 11 = .ok (.aload_n 0, 1) := by decide +kernel
theorem d4_12 : decode prog_50_method_2_code 12 = .ok (.getfield 7, 3) := by decide +kernel
theorem d4_15 : decode prog_50_method_2_code 15 = .ok (.aload_n 1, 1) := by decide +kernel
theorem d4_16 : decode prog_50_method_2_code 16 = .ok (.getfield 7, 3) := by decide +kernel
theorem d4_19 : decode prog_50_method_2_code 19 = .ok (.invokestatic 16, 3) := by decide +kernel
theorem d4_22 : decode prog_50_method_2_code 22 = .ok (.goto 14, 3) := by decide +kernel
theorem d4_36 : decode prog_50_method_2_code 36 = .ok (.ireturn, 1) := by decide +kernel
theorem pn_4 : plainName "com/example/descender/descender/Position" = true := by first | (simp [plainName, overriddenIn]; done) | decide +kernel
theorem pd_1 : parseMethodDescriptor "(II)I" = some ⟨[.int, .int], some .int⟩ := by decide +kernel
theorem ef_4 (m : MethodId) (x0 : Addr) (x1 : Addr) : entryFrame m #[(.ref x0), (.ref x1)] 2 = mkF m 0 #[.val (.ref x0), .val (.ref x1)] [] := by first | (simp [entryFrame, mkF, argsToLocals, Value.category]; done) | rfl
def Q4 (Z : State) (a1 : Addr) (a2 : Addr) (la ca lb cb : Int32) (h0 : Heap) (n0 : Nat) (v : Option Value) (h : Heap) (L : List Loc) : Prop := v = some (.int (own_cto la ca lb cb)) ∧ Fr n0 L ∧ h = h0
set_option maxRecDepth 65536 in
set_option maxHeartbeats 40000000 in
theorem rm4 (l : Launch) (Z : State) (a0 : Array Value) (hw : ∀ d ∈ tables_1, d.before a0 Z = true) (ws : List Jvm.Cond) (a1 : Addr) (a2 : Addr) (la ca lb cb : Int32) (h0 : Heap) (n0 : Nat) (Z0 : n0 ≤ h0.size) (F1 : Fld Z h0 a1 "com/example/descender/descender/Position" "line" "I" (.int la)) (F2 : Fld Z h0 a1 "com/example/descender/descender/Position" "column" "I" (.int ca)) (F3 : Fld Z h0 a2 "com/example/descender/descender/Position" "line" "I" (.int lb)) (F4 : Fld Z h0 a2 "com/example/descender/descender/Position" "column" "I" (.int cb)) :
    MetFree l (⟨"com/example/descender/descender/Position", "compareTo", "(Lcom/example/descender/descender/Position;)I"⟩ : MethodName) (head1 (Jvm.Cond.code (⟨"com/example/descender/descender/Position", "compareTo", "(Lcom/example/descender/descender/Position;)I"⟩ : MethodName) prog_50_method_2_code 2 (some .int) :: ws) ({ frames := 1, cells := 0, slots := 0, locals := 13 } : Room)) (fun a U => a = #[(.ref a1), (.ref a2)] ∧ Z.Warmed39 U.vm ∧ U.heap = h0) (fun _ _ _ _ _ => True) (fun _ U o U' => ∃ v L, o = .returned v ∧ Q4 Z a1 a2 la ca lb cb h0 n0 v U'.heap L ∧ FrameEnd U o U' L ({ frames := 1, cells := 0, slots := 0, locals := 13 } : Room).cells ({ frames := 1, cells := 0, slots := 0, locals := 13 } : Room).slots) := by
  refine MetFree.of_bodySF (plainFor_of_name pn_4) hisR ?_
  intro p e s m args below meth c s₁ Bd hml0 hP hK
  obtain ⟨rfl, hZ, hh⟩ := hP
  have hx := Bd.exec
  have hby := Bd.bytes
  have hml : c.maxLocals = 2 := hml0
  have hown : s.vm.findClass "com/example/descender/descender/Position" = some m.cls := findClass_of_methodNamed Bd.named
  have hnm := (name_of_methodNamed Bd.named Bd.method).1
  have X0 : Stand p l e ({ frames := 1, cells := 0, slots := 0, locals := 13 } : Room) s m #[(.ref a1), (.ref a2)] below meth c s₁ [] 0 0 := Stand.of_body Bd
  have e0 : s₁.heap = h0 := by rw [← hh, Bd.state]; rfl
  have N0 := Fr.nil n0
  have pre0 : ∀ t, Steps p.tables e below (s₁.setTop (mkF m 0 #[.val (.ref a1), .val (.ref a2)] [])) t → Steps p.tables e below (s₁.setTop (entryFrame m #[(.ref a1), (.ref a2)] 2)) t := fun t k => castTop (ef_4 m a1 a2) k
  by_cases hc8 : la = lb
  · have hc8_1 : la = lb := hc8
    obtain ⟨T4_1, X4_1, e4_1, st4_1⟩ := getF X0 hx hZ hown (host := "") (Or.inl (hw _ (List.mem_of_getElem? (i := 14) rfl))) Via.refl e0 F1 (g := (mkF m 1 #[.val (.ref a1), .val (.ref a2)] [(.ref a1)])) rfl rfl (hb hby d4_1)
    obtain ⟨T6_1, X6_1, e6_1, st6_1⟩ := getF X4_1 hx hZ hown (host := "") (Or.inl (hw _ (List.mem_of_getElem? (i := 14) rfl))) Via.refl e4_1 F3 (g := (mkF m 5 #[.val (.ref a1), .val (.ref a2)] [(.ref a2), (.int la)])) rfl rfl (hb hby d4_5)
    obtain ⟨T8_1, X8_1, e8_1, st8_1⟩ := getF X6_1 hx hZ hown (host := "") (Or.inl (hw _ (List.mem_of_getElem? (i := 16) rfl))) Via.refl e6_1 F2 (g := (mkF m 26 #[.val (.ref a1), .val (.ref a2)] [(.ref a1)])) rfl rfl (hb hby d4_26)
    obtain ⟨T10_1, X10_1, e10_1, st10_1⟩ := getF X8_1 hx hZ hown (host := "") (Or.inl (hw _ (List.mem_of_getElem? (i := 16) rfl))) Via.refl e8_1 F4 (g := (mkF m 30 #[.val (.ref a1), .val (.ref a2)] [(.ref a2), (.int ca)])) rfl rfl (hb hby d4_30)
    obtain ⟨_, _, ⟨T11_1, L11_1, k11_1, n11_1⟩, -, X11_1, ⟨Lc11_1, hQ11_1, l11_1, y11_1, z11_1⟩, st11_1⟩ := Jvm.LawKit.callS X10_1 hx (y := (⟨"java/lang/Integer", "compare", "(II)I"⟩ : MethodName)) hown (mvT hZ (hw _ (List.mem_of_getElem? (i := 23) rfl))) (mvT hZ (hw _ (List.mem_of_getElem? (i := 24) rfl))) (mvT hZ (hw _ (List.mem_of_getElem? (i := 25) rfl))) (mvT hZ (hw _ (List.mem_of_getElem? (i := 26) rfl))) (by decide) (backOf (W := 0) (rm5 l Z a0 hw [] ca cb h0 n0 Z0) hZ (hw _ (List.mem_of_getElem? (i := 26) rfl)) (hw _ (List.mem_of_getElem? (i := 25) rfl)) (by decide) (by decide)) (g := (mkF m 33 #[.val (.ref a1), .val (.ref a2)] [(.int cb), (.int ca)])) rfl (by rw [hml]; rfl) (argsL := [(.int ca), (.int cb)]) (rest := []) (lenOf pd_1 rfl) rfl (by show 2 * 0 + _ ≤ _; exact Nat.le_of_eq rfl) (hb hby d4_33) (fun _ _ => ⟨rfl, e10_1, (by decide : 0 + 0 ≤ _), (by decide : 0 + 0 ≤ _)⟩)
    dsimp only [Pt.U, Pt.locs, Pt.cells, Pt.slots] at X11_1 l11_1 y11_1 z11_1 st11_1 hQ11_1
    subst l11_1 y11_1 z11_1
    obtain ⟨rfl, N11q_1, gq⟩ := hQ11_1
    have N11_1 := Fr.app N0 N11q_1
    have st_1p : ∀ target, Steps p.tables e below (T11_1.setTop (mkF m 36 #[.val (.ref a1), .val (.ref a2)] [(.int (own_cmp ca cb))])) target → Steps p.tables e below (s₁.setTop (mkF m 0 #[.val (.ref a1), .val (.ref a2)] [])) target := by
      intro target kt
      show Steps p.tables e below (s₁.setTop (mkF m 0 #[.val (.ref a1), .val (.ref a2)] [])) _
      refine XS.aloadN X0.here hx rfl (hb hby d4_0) rfl rfl ?_
      show Steps p.tables e below (s₁.setTop (mkF m 1 #[.val (.ref a1), .val (.ref a2)] [(.ref a1)])) _
      refine st4_1 _ ?_
      show Steps p.tables e below (T4_1.setTop (mkF m 4 #[.val (.ref a1), .val (.ref a2)] [(.int la)])) _
      refine XS.aloadN X4_1.here hx rfl (hb hby d4_4) rfl rfl ?_
      show Steps p.tables e below (T4_1.setTop (mkF m 5 #[.val (.ref a1), .val (.ref a2)] [(.ref a2), (.int la)])) _
      refine st6_1 _ ?_
      show Steps p.tables e below (T6_1.setTop (mkF m 8 #[.val (.ref a1), .val (.ref a2)] [(.int lb), (.int la)])) _
      refine XS.icmpYes X6_1.here hx rfl (pc0 := 8) (pc' := 25) rfl (hb hby d4_8) rfl (teq hc8_1).1 (by decide) (by decide) ?_
      show Steps p.tables e below (T6_1.setTop (mkF m 25 #[.val (.ref a1), .val (.ref a2)] [])) _
      refine XS.aloadN X6_1.here hx rfl (hb hby d4_25) rfl rfl ?_
      show Steps p.tables e below (T6_1.setTop (mkF m 26 #[.val (.ref a1), .val (.ref a2)] [(.ref a1)])) _
      refine st8_1 _ ?_
      show Steps p.tables e below (T8_1.setTop (mkF m 29 #[.val (.ref a1), .val (.ref a2)] [(.int ca)])) _
      refine XS.aloadN X8_1.here hx rfl (hb hby d4_29) rfl rfl ?_
      show Steps p.tables e below (T8_1.setTop (mkF m 30 #[.val (.ref a1), .val (.ref a2)] [(.ref a2), (.int ca)])) _
      refine st10_1 _ ?_
      show Steps p.tables e below (T10_1.setTop (mkF m 33 #[.val (.ref a1), .val (.ref a2)] [(.int cb), (.int ca)])) _
      refine st11_1 _ ?_
      exact kt
    obtain ⟨fs, hr, hrun, hended, hW, hsame⟩ := X11_1.leave (v := some (.int (own_cmp ca cb))) (fun h => by rw [Bd.returns] at h; cases h)
    refine ⟨_, _, pre0 _ ?_, hrun, hended, _, _, rfl, ?_, ⟨_, rfl⟩, hW, hsame.mono (by decide) (by decide)⟩
    · show Steps p.tables e below (s₁.setTop (mkF m 0 #[.val (.ref a1), .val (.ref a2)] [])) _
      refine st_1p _ ?_
      exact retI X11_1 hx Bd.returns (hb hby d4_36) hr
    · show Q4 Z a1 a2 la ca lb cb h0 n0 _ T11_1.heap _
      exact ⟨by simp [own_cto, hc8], N11_1, gq⟩
  · have hc8_2 : ¬ (la = lb) := hc8
    obtain ⟨T4_2, X4_2, e4_2, st4_2⟩ := getF X0 hx hZ hown (host := "") (Or.inl (hw _ (List.mem_of_getElem? (i := 14) rfl))) Via.refl e0 F1 (g := (mkF m 1 #[.val (.ref a1), .val (.ref a2)] [(.ref a1)])) rfl rfl (hb hby d4_1)
    obtain ⟨T6_2, X6_2, e6_2, st6_2⟩ := getF X4_2 hx hZ hown (host := "") (Or.inl (hw _ (List.mem_of_getElem? (i := 14) rfl))) Via.refl e4_2 F3 (g := (mkF m 5 #[.val (.ref a1), .val (.ref a2)] [(.ref a2), (.int la)])) rfl rfl (hb hby d4_5)
    obtain ⟨T7_2, X7_2, e7_2, st7_2⟩ := getF X6_2 hx hZ hown (host := "") (Or.inl (hw _ (List.mem_of_getElem? (i := 14) rfl))) Via.refl e6_2 F1 (g := (mkF m 12 #[.val (.ref a1), .val (.ref a2)] [(.ref a1)])) rfl rfl (hb hby d4_12)
    obtain ⟨T8_2, X8_2, e8_2, st8_2⟩ := getF X7_2 hx hZ hown (host := "") (Or.inl (hw _ (List.mem_of_getElem? (i := 14) rfl))) Via.refl e7_2 F3 (g := (mkF m 16 #[.val (.ref a1), .val (.ref a2)] [(.ref a2), (.int la)])) rfl rfl (hb hby d4_16)
    obtain ⟨_, _, ⟨T9_2, L9_2, k9_2, n9_2⟩, -, X9_2, ⟨Lc9_2, hQ9_2, l9_2, y9_2, z9_2⟩, st9_2⟩ := Jvm.LawKit.callS X8_2 hx (y := (⟨"java/lang/Integer", "compare", "(II)I"⟩ : MethodName)) hown (mvT hZ (hw _ (List.mem_of_getElem? (i := 23) rfl))) (mvT hZ (hw _ (List.mem_of_getElem? (i := 24) rfl))) (mvT hZ (hw _ (List.mem_of_getElem? (i := 25) rfl))) (mvT hZ (hw _ (List.mem_of_getElem? (i := 26) rfl))) (by decide) (backOf (W := 0) (rm5 l Z a0 hw [] la lb h0 n0 Z0) hZ (hw _ (List.mem_of_getElem? (i := 26) rfl)) (hw _ (List.mem_of_getElem? (i := 25) rfl)) (by decide) (by decide)) (g := (mkF m 19 #[.val (.ref a1), .val (.ref a2)] [(.int lb), (.int la)])) rfl (by rw [hml]; rfl) (argsL := [(.int la), (.int lb)]) (rest := []) (lenOf pd_1 rfl) rfl (by show 2 * 0 + _ ≤ _; exact Nat.le_of_eq rfl) (hb hby d4_19) (fun _ _ => ⟨rfl, e8_2, (by decide : 0 + 0 ≤ _), (by decide : 0 + 0 ≤ _)⟩)
    dsimp only [Pt.U, Pt.locs, Pt.cells, Pt.slots] at X9_2 l9_2 y9_2 z9_2 st9_2 hQ9_2
    subst l9_2 y9_2 z9_2
    obtain ⟨rfl, N9q_2, gq⟩ := hQ9_2
    have N9_2 := Fr.app N0 N9q_2
    have st_2p : ∀ target, Steps p.tables e below (T9_2.setTop (mkF m 36 #[.val (.ref a1), .val (.ref a2)] [(.int (own_cmp la lb))])) target → Steps p.tables e below (s₁.setTop (mkF m 0 #[.val (.ref a1), .val (.ref a2)] [])) target := by
      intro target kt
      show Steps p.tables e below (s₁.setTop (mkF m 0 #[.val (.ref a1), .val (.ref a2)] [])) _
      refine XS.aloadN X0.here hx rfl (hb hby d4_0) rfl rfl ?_
      show Steps p.tables e below (s₁.setTop (mkF m 1 #[.val (.ref a1), .val (.ref a2)] [(.ref a1)])) _
      refine st4_2 _ ?_
      show Steps p.tables e below (T4_2.setTop (mkF m 4 #[.val (.ref a1), .val (.ref a2)] [(.int la)])) _
      refine XS.aloadN X4_2.here hx rfl (hb hby d4_4) rfl rfl ?_
      show Steps p.tables e below (T4_2.setTop (mkF m 5 #[.val (.ref a1), .val (.ref a2)] [(.ref a2), (.int la)])) _
      refine st6_2 _ ?_
      show Steps p.tables e below (T6_2.setTop (mkF m 8 #[.val (.ref a1), .val (.ref a2)] [(.int lb), (.int la)])) _
      refine XS.icmpNo X6_2.here hx rfl (hb hby d4_8) rfl (feq hc8_2).1 ?_
      show Steps p.tables e below (T6_2.setTop (mkF m 11 #[.val (.ref a1), .val (.ref a2)] [])) _
      refine XS.aloadN X6_2.here hx rfl (hb hby d4_11) rfl rfl ?_
      show Steps p.tables e below (T6_2.setTop (mkF m 12 #[.val (.ref a1), .val (.ref a2)] [(.ref a1)])) _
      refine st7_2 _ ?_
      show Steps p.tables e below (T7_2.setTop (mkF m 15 #[.val (.ref a1), .val (.ref a2)] [(.int la)])) _
      refine XS.aloadN X7_2.here hx rfl (hb hby d4_15) rfl rfl ?_
      show Steps p.tables e below (T7_2.setTop (mkF m 16 #[.val (.ref a1), .val (.ref a2)] [(.ref a2), (.int la)])) _
      refine st8_2 _ ?_
      show Steps p.tables e below (T8_2.setTop (mkF m 19 #[.val (.ref a1), .val (.ref a2)] [(.int lb), (.int la)])) _
      refine st9_2 _ ?_
      show Steps p.tables e below (T9_2.setTop (mkF m 22 #[.val (.ref a1), .val (.ref a2)] [(.int (own_cmp la lb))])) _
      refine XS.goto X9_2.here hx rfl (pc0 := 22) (pc' := 36) rfl (hb hby d4_22) (by decide) (by decide) ?_
      exact kt
    obtain ⟨fs, hr, hrun, hended, hW, hsame⟩ := X9_2.leave (v := some (.int (own_cmp la lb))) (fun h => by rw [Bd.returns] at h; cases h)
    refine ⟨_, _, pre0 _ ?_, hrun, hended, _, _, rfl, ?_, ⟨_, rfl⟩, hW, hsame.mono (by decide) (by decide)⟩
    · show Steps p.tables e below (s₁.setTop (mkF m 0 #[.val (.ref a1), .val (.ref a2)] [])) _
      refine st_2p _ ?_
      exact retI X9_2 hx Bd.returns (hb hby d4_36) hr
    · show Q4 Z a1 a2 la ca lb cb h0 n0 _ T9_2.heap _
      exact ⟨by simp [own_cto, hc8], N9_2, gq⟩

theorem pn_0 : plainName "com/example/descender/descender/PositionCompareToPinLaw" = true := by first | (simp [plainName, overriddenIn]; done) | decide +kernel
theorem pd_2 : parseMethodDescriptor "(II)V" = some ⟨[.int, .int], none⟩ := by decide +kernel
theorem pd_3 : parseMethodDescriptor "(Lcom/example/descender/descender/Position;)I" = some ⟨[(.object "com/example/descender/descender/Position")], some .int⟩ := by decide +kernel
theorem pd_4 : parseMethodDescriptor "(I)I" = some ⟨[.int], some .int⟩ := by decide +kernel
theorem ef_0 (m : MethodId) (x0 : Int32) (x1 : Int32) (x2 : Int32) (x3 : Int32) (x4 : Int32) : entryFrame m #[(.int x0), (.int x1), (.int x2), (.int x3), (.int x4)] maxLocals = mkF m 0 #[.val (.int x0), .val (.int x1), .val (.int x2), .val (.int x3), .val (.int x4), .unset, .unset, .unset, .unset, .unset] [] := by first | (simp [entryFrame, mkF, argsToLocals, Value.category, maxLocals]; done) | rfl
def Q0 (Z : State) (p1 : Int32) (p2 : Int32) (p3 : Int32) (p4 : Int32) (p5 : Int32) (h0 : Heap) (n0 : Nat) (v : Option Value) (h : Heap) (L : List Loc) : Prop := v = some (.int (1 : Int32)) ∧ Fr n0 L
set_option maxRecDepth 65536 in
set_option maxHeartbeats 40000000 in
theorem rm0 (l : Launch) (Z : State) (a0 : Array Value) (hw : ∀ d ∈ tables_1, d.before a0 Z = true) (ws : List Jvm.Cond) (p1 : Int32) (p2 : Int32) (p3 : Int32) (p4 : Int32) (p5 : Int32) (h0 : Heap) (n0 : Nat) (Z0 : n0 ≤ h0.size) :
    MetFree l x (head1 (Jvm.Cond.code x code maxLocals ret :: ws) room_1) (fun a U => a = #[(.int p1), (.int p2), (.int p3), (.int p4), (.int p5)] ∧ Z.Warmed39 U.vm ∧ U.heap = h0) (fun _ _ _ _ _ => True) (fun _ U o U' => ∃ v L, o = .returned v ∧ Q0 Z p1 p2 p3 p4 p5 h0 n0 v U'.heap L ∧ FrameEnd U o U' L room_1.cells room_1.slots) := by
  refine MetFree.of_bodySF (plainFor_of_name pn_0) hisR ?_
  intro p e s m args below meth c s₁ Bd hml0 hP hK
  obtain ⟨rfl, hZ, hh⟩ := hP
  have hx := Bd.exec
  have hby := Bd.bytes
  have hml : c.maxLocals = 10 := hml0
  have hown : s.vm.findClass "com/example/descender/descender/PositionCompareToPinLaw" = some m.cls := findClass_of_methodNamed Bd.named
  have hnm := (name_of_methodNamed Bd.named Bd.method).1
  have X0 : Stand p l e room_1 s m #[(.int p1), (.int p2), (.int p3), (.int p4), (.int p5)] below meth c s₁ [] 0 0 := Stand.of_body Bd
  have e0 : s₁.heap = h0 := by rw [← hh, Bd.state]; rfl
  have N0 := Fr.nil n0
  have pre0 : ∀ t, Steps p.tables e below (s₁.setTop (mkF m 0 #[.val (.int p1), .val (.int p2), .val (.int p3), .val (.int p4), .val (.int p5), .unset, .unset, .unset, .unset, .unset] [])) t → Steps p.tables e below (s₁.setTop (entryFrame m #[(.int p1), (.int p2), (.int p3), (.int p4), (.int p5)] maxLocals)) t := fun t k => castTop (ef_0 m p1 p2 p3 p4 p5) k
  obtain ⟨lb, st_3p⟩ : ∃ (lb : Int32), ∀ target, Steps p.tables e below (s₁.setTop (mkF m 14 #[.val (.int p1), .val (.int p2), .val (.int p3), .val (.int p4), .val (.int p5), .val (.int lb), .unset, .unset, .unset, .unset] [])) target → Steps p.tables e below (s₁.setTop (mkF m 0 #[.val (.int p1), .val (.int p2), .val (.int p3), .val (.int p4), .val (.int p5), .unset, .unset, .unset, .unset, .unset] [])) target := by
    by_cases hc4 : (p5 &&& (1 : Int32)) = (0 : Int32)
    · refine ⟨p3, fun target kt => ?_⟩
      show Steps p.tables e below (s₁.setTop (mkF m 0 #[.val (.int p1), .val (.int p2), .val (.int p3), .val (.int p4), .val (.int p5), .unset, .unset, .unset, .unset, .unset] [])) _
      refine XS.iload X0.here hx rfl (hb hby at_0) rfl ?_
      show Steps p.tables e below (s₁.setTop (mkF m 2 #[.val (.int p1), .val (.int p2), .val (.int p3), .val (.int p4), .val (.int p5), .unset, .unset, .unset, .unset, .unset] [(.int p5)])) _
      refine XS.iconst X0.here hx rfl (hb hby at_2) ?_
      show Steps p.tables e below (s₁.setTop (mkF m 3 #[.val (.int p1), .val (.int p2), .val (.int p3), .val (.int p4), .val (.int p5), .unset, .unset, .unset, .unset, .unset] [(.int (1 : Int32)), (.int p5)])) _
      refine XS.iand X0.here hx rfl (hb hby at_3) rfl ?_
      show Steps p.tables e below (s₁.setTop (mkF m 4 #[.val (.int p1), .val (.int p2), .val (.int p3), .val (.int p4), .val (.int p5), .unset, .unset, .unset, .unset, .unset] [(.int (p5 &&& (1 : Int32)))])) _
      refine XS.ifYes X0.here hx rfl (pc0 := 4) (pc' := 11) rfl (hb hby at_4) rfl ((if0 _ _).trans (teq hc4).1) (by decide) (by decide) ?_
      show Steps p.tables e below (s₁.setTop (mkF m 11 #[.val (.int p1), .val (.int p2), .val (.int p3), .val (.int p4), .val (.int p5), .unset, .unset, .unset, .unset, .unset] [])) _
      refine XS.iloadN X0.here hx rfl (hb hby at_11) rfl ?_
      show Steps p.tables e below (s₁.setTop (mkF m 12 #[.val (.int p1), .val (.int p2), .val (.int p3), .val (.int p4), .val (.int p5), .unset, .unset, .unset, .unset, .unset] [(.int p3)])) _
      refine XS.istore X0.here hx rfl (hb hby at_12) rfl (l' := #[.val (.int p1), .val (.int p2), .val (.int p3), .val (.int p4), .val (.int p5), .val (.int p3), .unset, .unset, .unset, .unset]) rfl ?_
      exact kt
    · refine ⟨p1, fun target kt => ?_⟩
      show Steps p.tables e below (s₁.setTop (mkF m 0 #[.val (.int p1), .val (.int p2), .val (.int p3), .val (.int p4), .val (.int p5), .unset, .unset, .unset, .unset, .unset] [])) _
      refine XS.iload X0.here hx rfl (hb hby at_0) rfl ?_
      show Steps p.tables e below (s₁.setTop (mkF m 2 #[.val (.int p1), .val (.int p2), .val (.int p3), .val (.int p4), .val (.int p5), .unset, .unset, .unset, .unset, .unset] [(.int p5)])) _
      refine XS.iconst X0.here hx rfl (hb hby at_2) ?_
      show Steps p.tables e below (s₁.setTop (mkF m 3 #[.val (.int p1), .val (.int p2), .val (.int p3), .val (.int p4), .val (.int p5), .unset, .unset, .unset, .unset, .unset] [(.int (1 : Int32)), (.int p5)])) _
      refine XS.iand X0.here hx rfl (hb hby at_3) rfl ?_
      show Steps p.tables e below (s₁.setTop (mkF m 4 #[.val (.int p1), .val (.int p2), .val (.int p3), .val (.int p4), .val (.int p5), .unset, .unset, .unset, .unset, .unset] [(.int (p5 &&& (1 : Int32)))])) _
      refine XS.ifNo X0.here hx rfl (hb hby at_4) rfl ((if0 _ _).trans (feq hc4).1) ?_
      show Steps p.tables e below (s₁.setTop (mkF m 7 #[.val (.int p1), .val (.int p2), .val (.int p3), .val (.int p4), .val (.int p5), .unset, .unset, .unset, .unset, .unset] [])) _
      refine XS.iloadN X0.here hx rfl (hb hby at_7) rfl ?_
      show Steps p.tables e below (s₁.setTop (mkF m 8 #[.val (.int p1), .val (.int p2), .val (.int p3), .val (.int p4), .val (.int p5), .unset, .unset, .unset, .unset, .unset] [(.int p1)])) _
      refine XS.goto X0.here hx rfl (pc0 := 8) (pc' := 12) rfl (hb hby at_8) (by decide) (by decide) ?_
      show Steps p.tables e below (s₁.setTop (mkF m 12 #[.val (.int p1), .val (.int p2), .val (.int p3), .val (.int p4), .val (.int p5), .unset, .unset, .unset, .unset, .unset] [(.int p1)])) _
      refine XS.istore X0.here hx rfl (hb hby at_12) rfl (l' := #[.val (.int p1), .val (.int p2), .val (.int p3), .val (.int p4), .val (.int p5), .val (.int p1), .unset, .unset, .unset, .unset]) rfl ?_
      exact kt
  obtain ⟨cb, st_6p⟩ : ∃ (cb : Int32), ∀ target, Steps p.tables e below (s₁.setTop (mkF m 28 #[.val (.int p1), .val (.int p2), .val (.int p3), .val (.int p4), .val (.int p5), .val (.int lb), .val (.int cb), .unset, .unset, .unset] [])) target → Steps p.tables e below (s₁.setTop (mkF m 14 #[.val (.int p1), .val (.int p2), .val (.int p3), .val (.int p4), .val (.int p5), .val (.int lb), .unset, .unset, .unset, .unset] [])) target := by
    by_cases hc18 : (p5 &&& (2 : Int32)) = (0 : Int32)
    · refine ⟨p4, fun target kt => ?_⟩
      show Steps p.tables e below (s₁.setTop (mkF m 14 #[.val (.int p1), .val (.int p2), .val (.int p3), .val (.int p4), .val (.int p5), .val (.int lb), .unset, .unset, .unset, .unset] [])) _
      refine XS.iload X0.here hx rfl (hb hby at_14) rfl ?_
      show Steps p.tables e below (s₁.setTop (mkF m 16 #[.val (.int p1), .val (.int p2), .val (.int p3), .val (.int p4), .val (.int p5), .val (.int lb), .unset, .unset, .unset, .unset] [(.int p5)])) _
      refine XS.iconst X0.here hx rfl (hb hby at_16) ?_
      show Steps p.tables e below (s₁.setTop (mkF m 17 #[.val (.int p1), .val (.int p2), .val (.int p3), .val (.int p4), .val (.int p5), .val (.int lb), .unset, .unset, .unset, .unset] [(.int (2 : Int32)), (.int p5)])) _
      refine XS.iand X0.here hx rfl (hb hby at_17) rfl ?_
      show Steps p.tables e below (s₁.setTop (mkF m 18 #[.val (.int p1), .val (.int p2), .val (.int p3), .val (.int p4), .val (.int p5), .val (.int lb), .unset, .unset, .unset, .unset] [(.int (p5 &&& (2 : Int32)))])) _
      refine XS.ifYes X0.here hx rfl (pc0 := 18) (pc' := 25) rfl (hb hby at_18) rfl ((if0 _ _).trans (teq hc18).1) (by decide) (by decide) ?_
      show Steps p.tables e below (s₁.setTop (mkF m 25 #[.val (.int p1), .val (.int p2), .val (.int p3), .val (.int p4), .val (.int p5), .val (.int lb), .unset, .unset, .unset, .unset] [])) _
      refine XS.iloadN X0.here hx rfl (hb hby at_25) rfl ?_
      show Steps p.tables e below (s₁.setTop (mkF m 26 #[.val (.int p1), .val (.int p2), .val (.int p3), .val (.int p4), .val (.int p5), .val (.int lb), .unset, .unset, .unset, .unset] [(.int p4)])) _
      refine XS.istore X0.here hx rfl (hb hby at_26) rfl (l' := #[.val (.int p1), .val (.int p2), .val (.int p3), .val (.int p4), .val (.int p5), .val (.int lb), .val (.int p4), .unset, .unset, .unset]) rfl ?_
      exact kt
    · refine ⟨p2, fun target kt => ?_⟩
      show Steps p.tables e below (s₁.setTop (mkF m 14 #[.val (.int p1), .val (.int p2), .val (.int p3), .val (.int p4), .val (.int p5), .val (.int lb), .unset, .unset, .unset, .unset] [])) _
      refine XS.iload X0.here hx rfl (hb hby at_14) rfl ?_
      show Steps p.tables e below (s₁.setTop (mkF m 16 #[.val (.int p1), .val (.int p2), .val (.int p3), .val (.int p4), .val (.int p5), .val (.int lb), .unset, .unset, .unset, .unset] [(.int p5)])) _
      refine XS.iconst X0.here hx rfl (hb hby at_16) ?_
      show Steps p.tables e below (s₁.setTop (mkF m 17 #[.val (.int p1), .val (.int p2), .val (.int p3), .val (.int p4), .val (.int p5), .val (.int lb), .unset, .unset, .unset, .unset] [(.int (2 : Int32)), (.int p5)])) _
      refine XS.iand X0.here hx rfl (hb hby at_17) rfl ?_
      show Steps p.tables e below (s₁.setTop (mkF m 18 #[.val (.int p1), .val (.int p2), .val (.int p3), .val (.int p4), .val (.int p5), .val (.int lb), .unset, .unset, .unset, .unset] [(.int (p5 &&& (2 : Int32)))])) _
      refine XS.ifNo X0.here hx rfl (hb hby at_18) rfl ((if0 _ _).trans (feq hc18).1) ?_
      show Steps p.tables e below (s₁.setTop (mkF m 21 #[.val (.int p1), .val (.int p2), .val (.int p3), .val (.int p4), .val (.int p5), .val (.int lb), .unset, .unset, .unset, .unset] [])) _
      refine XS.iloadN X0.here hx rfl (hb hby at_21) rfl ?_
      show Steps p.tables e below (s₁.setTop (mkF m 22 #[.val (.int p1), .val (.int p2), .val (.int p3), .val (.int p4), .val (.int p5), .val (.int lb), .unset, .unset, .unset, .unset] [(.int p2)])) _
      refine XS.goto X0.here hx rfl (pc0 := 22) (pc' := 26) rfl (hb hby at_22) (by decide) (by decide) ?_
      show Steps p.tables e below (s₁.setTop (mkF m 26 #[.val (.int p1), .val (.int p2), .val (.int p3), .val (.int p4), .val (.int p5), .val (.int lb), .unset, .unset, .unset, .unset] [(.int p2)])) _
      refine XS.istore X0.here hx rfl (hb hby at_26) rfl (l' := #[.val (.int p1), .val (.int p2), .val (.int p3), .val (.int p4), .val (.int p5), .val (.int lb), .val (.int p2), .unset, .unset, .unset]) rfl ?_
      exact kt
  obtain ⟨T6_7, h6_7, X6_7, e6_7, E6_7, A6_7, D6_7, -, st6_7⟩ := newO X0 hx hZ hown (hw _ (List.mem_of_getElem? (i := 0) rfl)) (hw _ (List.mem_of_getElem? (i := 1) rfl)) (hw _ (List.mem_of_getElem? (i := 2) rfl)) e0 (g := (mkF m 28 #[.val (.int p1), .val (.int p2), .val (.int p3), .val (.int p4), .val (.int p5), .val (.int lb), .val (.int cb), .unset, .unset, .unset] [])) rfl (hb hby at_28) (by decide) (by decide)
  obtain ⟨b6_7, g6_7⟩ : ∃ z, z = h0.size := ⟨_, rfl⟩
  rw [← g6_7] at A6_7 D6_7 st6_7
  have F_line_b6_7 : Fld Z h6_7 b6_7 "com/example/descender/descender/Position" "line" "I" (.int (0 : Int32)) := D6_7 (Or.inr (hw _ (List.mem_of_getElem? (i := 15) rfl))) (ty := .int) (by decide)
  have F_column_b6_7 : Fld Z h6_7 b6_7 "com/example/descender/descender/Position" "column" "I" (.int (0 : Int32)) := D6_7 (Or.inr (hw _ (List.mem_of_getElem? (i := 17) rfl))) (ty := .int) (by decide)
  have E_b6_7 := A6_7
  have g_b6_7 : n0 ≤ b6_7 := Nat.le_trans Z0 (Nat.le_of_eq g6_7.symm)
  have sz_b6_7 : h0.size ≤ b6_7 := (Nat.le_trans (Keep.refl h0 []).1 (Nat.le_of_eq g6_7.symm))
  have K6_7 : Keep h0 h6_7 [] := (Keep.refl h0 []).ext E6_7
  obtain ⟨_, _, ⟨T7_7, L7_7, k7_7, n7_7⟩, -, X7_7, ⟨Lc7_7, hQ7_7, l7_7, y7_7, z7_7⟩, st7_7⟩ := X6_7.specialBack hx (y := (⟨"com/example/descender/descender/Position", "<init>", "(II)V"⟩ : MethodName)) rfl hown (mvT hZ (hw _ (List.mem_of_getElem? (i := 3) rfl))) (mvT hZ (hw _ (List.mem_of_getElem? (i := 4) rfl))) (mvT hZ (hw _ (List.mem_of_getElem? (i := 5) rfl))) (by decide) (backOf (W := 1) (rm1 l Z a0 hw [] b6_7 p1 p2 (.int 0) (.int 0) h6_7 n0 (Nat.le_trans Z0 E6_7.1) E_b6_7 F_line_b6_7 g_b6_7 F_column_b6_7) hZ (hw _ (List.mem_of_getElem? (i := 5) rfl)) (hw _ (List.mem_of_getElem? (i := 2) rfl)) (by decide) (by decide)) (g := (mkF m 34 #[.val (.int p1), .val (.int p2), .val (.int p3), .val (.int p4), .val (.int p5), .val (.int lb), .val (.int cb), .unset, .unset, .unset] [(.int p2), (.int p1), (.ref b6_7), (.ref b6_7)])) rfl (by rw [hml]; rfl) (Steps.refl _) (a := b6_7) (argsL := [(.int p1), (.int p2)]) (rest := [(.ref b6_7)]) (lenOf pd_2 rfl) rfl (by show 2 * 0 + _ ≤ _; exact Nat.le_of_eq rfl) (hb hby at_34) (fun _ _ => ⟨rfl, e6_7, (by decide : 0 + 1 + 0 ≤ _), (by decide : 0 + 2 + 0 ≤ _)⟩)
  dsimp only [Pt.U, Pt.locs, Pt.cells, Pt.slots] at X7_7 l7_7 y7_7 z7_7 st7_7 hQ7_7
  subst l7_7 y7_7 z7_7
  obtain ⟨rfl, N7q_7, K7_7, Ex7_7, Fl7_7, Fc7_7⟩ := hQ7_7
  have N7_7 := Fr.app N0 N7q_7
  obtain ⟨T8_7, h8_7, X8_7, e8_7, E8_7, A8_7, D8_7, -, st8_7⟩ := newO X7_7 hx hZ hown (hw _ (List.mem_of_getElem? (i := 0) rfl)) (hw _ (List.mem_of_getElem? (i := 1) rfl)) (hw _ (List.mem_of_getElem? (i := 2) rfl)) rfl (g := (mkF m 39 #[.val (.int p1), .val (.int p2), .val (.int p3), .val (.int p4), .val (.int p5), .val (.int lb), .val (.int cb), .val (.ref b6_7), .unset, .unset] [])) rfl (hb hby at_39) (by decide) (by decide)
  obtain ⟨b8_7, g8_7⟩ : ∃ z, z = T7_7.heap.size := ⟨_, rfl⟩
  rw [← g8_7] at A8_7 D8_7 st8_7
  have F_line_b8_7 : Fld Z h8_7 b8_7 "com/example/descender/descender/Position" "line" "I" (.int (0 : Int32)) := D8_7 (Or.inr (hw _ (List.mem_of_getElem? (i := 15) rfl))) (ty := .int) (by decide)
  have F_column_b8_7 : Fld Z h8_7 b8_7 "com/example/descender/descender/Position" "column" "I" (.int (0 : Int32)) := D8_7 (Or.inr (hw _ (List.mem_of_getElem? (i := 17) rfl))) (ty := .int) (by decide)
  have E_b8_7 := A8_7
  have g_b8_7 : n0 ≤ b8_7 := Nat.le_trans (Nat.le_trans (Nat.le_trans Z0 E6_7.1) K7_7.1) (Nat.le_of_eq g8_7.symm)
  have sz_b8_7 : h0.size ≤ b8_7 := (Nat.le_trans (K6_7.trans K7_7 (allS (Or.inr sz_b6_7) all0)).1 (Nat.le_of_eq g8_7.symm))
  have K8_7 : Keep h0 h8_7 [] := (K6_7.trans K7_7 (allS (Or.inr sz_b6_7) all0)).ext E8_7
  obtain ⟨_, _, ⟨T9_7, L9_7, k9_7, n9_7⟩, -, X9_7, ⟨Lc9_7, hQ9_7, l9_7, y9_7, z9_7⟩, st9_7⟩ := X8_7.specialBack hx (y := (⟨"com/example/descender/descender/Position", "<init>", "(II)V"⟩ : MethodName)) rfl hown (mvT hZ (hw _ (List.mem_of_getElem? (i := 3) rfl))) (mvT hZ (hw _ (List.mem_of_getElem? (i := 4) rfl))) (mvT hZ (hw _ (List.mem_of_getElem? (i := 5) rfl))) (by decide) (backOf (W := 1) (rm1 l Z a0 hw [] b8_7 lb cb (.int 0) (.int 0) h8_7 n0 (Nat.le_trans (Nat.le_trans (Nat.le_trans Z0 E6_7.1) K7_7.1) E8_7.1) E_b8_7 F_line_b8_7 g_b8_7 F_column_b8_7) hZ (hw _ (List.mem_of_getElem? (i := 5) rfl)) (hw _ (List.mem_of_getElem? (i := 2) rfl)) (by decide) (by decide)) (g := (mkF m 47 #[.val (.int p1), .val (.int p2), .val (.int p3), .val (.int p4), .val (.int p5), .val (.int lb), .val (.int cb), .val (.ref b6_7), .unset, .unset] [(.int cb), (.int lb), (.ref b8_7), (.ref b8_7)])) rfl (by rw [hml]; rfl) (Steps.refl _) (a := b8_7) (argsL := [(.int lb), (.int cb)]) (rest := [(.ref b8_7)]) (lenOf pd_2 rfl) rfl (by show 2 * 0 + _ ≤ _; exact Nat.le_of_eq rfl) (hb hby at_47) (fun _ _ => ⟨rfl, e8_7, (by decide : 0 + 2 + 0 ≤ _), (by decide : 0 + 4 + 0 ≤ _)⟩)
  dsimp only [Pt.U, Pt.locs, Pt.cells, Pt.slots] at X9_7 l9_7 y9_7 z9_7 st9_7 hQ9_7
  subst l9_7 y9_7 z9_7
  obtain ⟨rfl, N9q_7, K9_7, Ex9_7, Fl9_7, Fc9_7⟩ := hQ9_7
  have N9_7 := Fr.app N7_7 N9q_7
  have st_7p : ∀ target, Steps p.tables e below (T9_7.setTop (mkF m 52 #[.val (.int p1), .val (.int p2), .val (.int p3), .val (.int p4), .val (.int p5), .val (.int lb), .val (.int cb), .val (.ref b6_7), .val (.ref b8_7), .unset] [])) target → Steps p.tables e below (s₁.setTop (mkF m 28 #[.val (.int p1), .val (.int p2), .val (.int p3), .val (.int p4), .val (.int p5), .val (.int lb), .val (.int cb), .unset, .unset, .unset] [])) target := by
    intro target kt
    show Steps p.tables e below (s₁.setTop (mkF m 28 #[.val (.int p1), .val (.int p2), .val (.int p3), .val (.int p4), .val (.int p5), .val (.int lb), .val (.int cb), .unset, .unset, .unset] [])) _
    refine st6_7 _ ?_
    show Steps p.tables e below (T6_7.setTop (mkF m 31 #[.val (.int p1), .val (.int p2), .val (.int p3), .val (.int p4), .val (.int p5), .val (.int lb), .val (.int cb), .unset, .unset, .unset] [(.ref b6_7)])) _
    refine XS.dup X6_7.here hx rfl (hb hby at_31) rfl rfl ?_
    show Steps p.tables e below (T6_7.setTop (mkF m 32 #[.val (.int p1), .val (.int p2), .val (.int p3), .val (.int p4), .val (.int p5), .val (.int lb), .val (.int cb), .unset, .unset, .unset] [(.ref b6_7), (.ref b6_7)])) _
    refine XS.iloadN X6_7.here hx rfl (hb hby at_32) rfl ?_
    show Steps p.tables e below (T6_7.setTop (mkF m 33 #[.val (.int p1), .val (.int p2), .val (.int p3), .val (.int p4), .val (.int p5), .val (.int lb), .val (.int cb), .unset, .unset, .unset] [(.int p1), (.ref b6_7), (.ref b6_7)])) _
    refine XS.iloadN X6_7.here hx rfl (hb hby at_33) rfl ?_
    show Steps p.tables e below (T6_7.setTop (mkF m 34 #[.val (.int p1), .val (.int p2), .val (.int p3), .val (.int p4), .val (.int p5), .val (.int lb), .val (.int cb), .unset, .unset, .unset] [(.int p2), (.int p1), (.ref b6_7), (.ref b6_7)])) _
    refine st7_7.trans ?_
    show Steps p.tables e below (T7_7.setTop (mkF m 37 #[.val (.int p1), .val (.int p2), .val (.int p3), .val (.int p4), .val (.int p5), .val (.int lb), .val (.int cb), .unset, .unset, .unset] [(.ref b6_7)])) _
    refine XS.astore X7_7.here hx rfl (hb hby at_37) rfl rfl (l' := #[.val (.int p1), .val (.int p2), .val (.int p3), .val (.int p4), .val (.int p5), .val (.int lb), .val (.int cb), .val (.ref b6_7), .unset, .unset]) rfl ?_
    show Steps p.tables e below (T7_7.setTop (mkF m 39 #[.val (.int p1), .val (.int p2), .val (.int p3), .val (.int p4), .val (.int p5), .val (.int lb), .val (.int cb), .val (.ref b6_7), .unset, .unset] [])) _
    refine st8_7 _ ?_
    show Steps p.tables e below (T8_7.setTop (mkF m 42 #[.val (.int p1), .val (.int p2), .val (.int p3), .val (.int p4), .val (.int p5), .val (.int lb), .val (.int cb), .val (.ref b6_7), .unset, .unset] [(.ref b8_7)])) _
    refine XS.dup X8_7.here hx rfl (hb hby at_42) rfl rfl ?_
    show Steps p.tables e below (T8_7.setTop (mkF m 43 #[.val (.int p1), .val (.int p2), .val (.int p3), .val (.int p4), .val (.int p5), .val (.int lb), .val (.int cb), .val (.ref b6_7), .unset, .unset] [(.ref b8_7), (.ref b8_7)])) _
    refine XS.iload X8_7.here hx rfl (hb hby at_43) rfl ?_
    show Steps p.tables e below (T8_7.setTop (mkF m 45 #[.val (.int p1), .val (.int p2), .val (.int p3), .val (.int p4), .val (.int p5), .val (.int lb), .val (.int cb), .val (.ref b6_7), .unset, .unset] [(.int lb), (.ref b8_7), (.ref b8_7)])) _
    refine XS.iload X8_7.here hx rfl (hb hby at_45) rfl ?_
    show Steps p.tables e below (T8_7.setTop (mkF m 47 #[.val (.int p1), .val (.int p2), .val (.int p3), .val (.int p4), .val (.int p5), .val (.int lb), .val (.int cb), .val (.ref b6_7), .unset, .unset] [(.int cb), (.int lb), (.ref b8_7), (.ref b8_7)])) _
    refine st9_7.trans ?_
    show Steps p.tables e below (T9_7.setTop (mkF m 50 #[.val (.int p1), .val (.int p2), .val (.int p3), .val (.int p4), .val (.int p5), .val (.int lb), .val (.int cb), .val (.ref b6_7), .unset, .unset] [(.ref b8_7)])) _
    refine XS.astore X9_7.here hx rfl (hb hby at_50) rfl rfl (l' := #[.val (.int p1), .val (.int p2), .val (.int p3), .val (.int p4), .val (.int p5), .val (.int lb), .val (.int cb), .val (.ref b6_7), .val (.ref b8_7), .unset]) rfl ?_
    exact kt
  have hne : b6_7 ≠ b8_7 := by rw [g8_7]; exact Nat.ne_of_lt Fl7_7.lt
  have Fa1 := (Fl7_7.ext E8_7).keep K9_7 (ninS hne nin0)
  have Fa2 := (Fc7_7.ext E8_7).keep K9_7 (ninS hne nin0)
  have Exa1 := (Ex7_7.ext E8_7).keep K9_7
  have Fb1 := Fl9_7
  have Fb2 := Fc9_7
  have Exb1 := Ex9_7
  have Zc : n0 ≤ T9_7.heap.size := Nat.le_trans (Nat.le_trans (Nat.le_trans (Nat.le_trans Z0 E6_7.1) K7_7.1) E8_7.1) K9_7.1
  obtain ⟨ex, hex, st_13p⟩ : ∃ (ex : Int32), (ex = own_exp p1 p2 lb cb) ∧ ∀ target, Steps p.tables e below (T9_7.setTop (mkF m 103 #[.val (.int p1), .val (.int p2), .val (.int p3), .val (.int p4), .val (.int p5), .val (.int lb), .val (.int cb), .val (.ref b6_7), .val (.ref b8_7), .val (.int ex)] [])) target → Steps p.tables e below (T9_7.setTop (mkF m 52 #[.val (.int p1), .val (.int p2), .val (.int p3), .val (.int p4), .val (.int p5), .val (.int lb), .val (.int cb), .val (.ref b6_7), .val (.ref b8_7), .unset] [])) target := by
    by_cases hc55 : p1 < lb
    · refine ⟨(-1 : Int32), by simp [own_exp, hc55], fun target kt => ?_⟩
      show Steps p.tables e below (T9_7.setTop (mkF m 52 #[.val (.int p1), .val (.int p2), .val (.int p3), .val (.int p4), .val (.int p5), .val (.int lb), .val (.int cb), .val (.ref b6_7), .val (.ref b8_7), .unset] [])) _
      refine XS.iloadN X9_7.here hx rfl (hb hby at_52) rfl ?_
      show Steps p.tables e below (T9_7.setTop (mkF m 53 #[.val (.int p1), .val (.int p2), .val (.int p3), .val (.int p4), .val (.int p5), .val (.int lb), .val (.int cb), .val (.ref b6_7), .val (.ref b8_7), .unset] [(.int p1)])) _
      refine XS.iload X9_7.here hx rfl (hb hby at_53) rfl ?_
      show Steps p.tables e below (T9_7.setTop (mkF m 55 #[.val (.int p1), .val (.int p2), .val (.int p3), .val (.int p4), .val (.int p5), .val (.int lb), .val (.int cb), .val (.ref b6_7), .val (.ref b8_7), .unset] [(.int lb), (.int p1)])) _
      refine XS.icmpNo X9_7.here hx rfl (hb hby at_55) rfl (tlt hc55).2.1 ?_
      show Steps p.tables e below (T9_7.setTop (mkF m 58 #[.val (.int p1), .val (.int p2), .val (.int p3), .val (.int p4), .val (.int p5), .val (.int lb), .val (.int cb), .val (.ref b6_7), .val (.ref b8_7), .unset] [])) _
      refine XS.iconst X9_7.here hx rfl (hb hby at_58) ?_
      show Steps p.tables e below (T9_7.setTop (mkF m 59 #[.val (.int p1), .val (.int p2), .val (.int p3), .val (.int p4), .val (.int p5), .val (.int lb), .val (.int cb), .val (.ref b6_7), .val (.ref b8_7), .unset] [(.int (-1 : Int32))])) _
      refine XS.istore X9_7.here hx rfl (hb hby at_59) rfl (l' := #[.val (.int p1), .val (.int p2), .val (.int p3), .val (.int p4), .val (.int p5), .val (.int lb), .val (.int cb), .val (.ref b6_7), .val (.ref b8_7), .val (.int (-1 : Int32))]) rfl ?_
      show Steps p.tables e below (T9_7.setTop (mkF m 61 #[.val (.int p1), .val (.int p2), .val (.int p3), .val (.int p4), .val (.int p5), .val (.int lb), .val (.int cb), .val (.ref b6_7), .val (.ref b8_7), .val (.int (-1 : Int32))] [])) _
      refine XS.goto X9_7.here hx rfl (pc0 := 61) (pc' := 103) rfl (hb hby at_61) (by decide) (by decide) ?_
      exact kt
    · by_cases hc67 : lb < p1
      · refine ⟨(1 : Int32), by simp [own_exp, hc55, hc67], fun target kt => ?_⟩
        show Steps p.tables e below (T9_7.setTop (mkF m 52 #[.val (.int p1), .val (.int p2), .val (.int p3), .val (.int p4), .val (.int p5), .val (.int lb), .val (.int cb), .val (.ref b6_7), .val (.ref b8_7), .unset] [])) _
        refine XS.iloadN X9_7.here hx rfl (hb hby at_52) rfl ?_
        show Steps p.tables e below (T9_7.setTop (mkF m 53 #[.val (.int p1), .val (.int p2), .val (.int p3), .val (.int p4), .val (.int p5), .val (.int lb), .val (.int cb), .val (.ref b6_7), .val (.ref b8_7), .unset] [(.int p1)])) _
        refine XS.iload X9_7.here hx rfl (hb hby at_53) rfl ?_
        show Steps p.tables e below (T9_7.setTop (mkF m 55 #[.val (.int p1), .val (.int p2), .val (.int p3), .val (.int p4), .val (.int p5), .val (.int lb), .val (.int cb), .val (.ref b6_7), .val (.ref b8_7), .unset] [(.int lb), (.int p1)])) _
        refine XS.icmpYes X9_7.here hx rfl (pc0 := 55) (pc' := 64) rfl (hb hby at_55) rfl (flt hc55).2.1 (by decide) (by decide) ?_
        show Steps p.tables e below (T9_7.setTop (mkF m 64 #[.val (.int p1), .val (.int p2), .val (.int p3), .val (.int p4), .val (.int p5), .val (.int lb), .val (.int cb), .val (.ref b6_7), .val (.ref b8_7), .unset] [])) _
        refine XS.iloadN X9_7.here hx rfl (hb hby at_64) rfl ?_
        show Steps p.tables e below (T9_7.setTop (mkF m 65 #[.val (.int p1), .val (.int p2), .val (.int p3), .val (.int p4), .val (.int p5), .val (.int lb), .val (.int cb), .val (.ref b6_7), .val (.ref b8_7), .unset] [(.int p1)])) _
        refine XS.iload X9_7.here hx rfl (hb hby at_65) rfl ?_
        show Steps p.tables e below (T9_7.setTop (mkF m 67 #[.val (.int p1), .val (.int p2), .val (.int p3), .val (.int p4), .val (.int p5), .val (.int lb), .val (.int cb), .val (.ref b6_7), .val (.ref b8_7), .unset] [(.int lb), (.int p1)])) _
        refine XS.icmpNo X9_7.here hx rfl (hb hby at_67) rfl (tlt hc67).2.2.2 ?_
        show Steps p.tables e below (T9_7.setTop (mkF m 70 #[.val (.int p1), .val (.int p2), .val (.int p3), .val (.int p4), .val (.int p5), .val (.int lb), .val (.int cb), .val (.ref b6_7), .val (.ref b8_7), .unset] [])) _
        refine XS.iconst X9_7.here hx rfl (hb hby at_70) ?_
        show Steps p.tables e below (T9_7.setTop (mkF m 71 #[.val (.int p1), .val (.int p2), .val (.int p3), .val (.int p4), .val (.int p5), .val (.int lb), .val (.int cb), .val (.ref b6_7), .val (.ref b8_7), .unset] [(.int (1 : Int32))])) _
        refine XS.istore X9_7.here hx rfl (hb hby at_71) rfl (l' := #[.val (.int p1), .val (.int p2), .val (.int p3), .val (.int p4), .val (.int p5), .val (.int lb), .val (.int cb), .val (.ref b6_7), .val (.ref b8_7), .val (.int (1 : Int32))]) rfl ?_
        show Steps p.tables e below (T9_7.setTop (mkF m 73 #[.val (.int p1), .val (.int p2), .val (.int p3), .val (.int p4), .val (.int p5), .val (.int lb), .val (.int cb), .val (.ref b6_7), .val (.ref b8_7), .val (.int (1 : Int32))] [])) _
        refine XS.goto X9_7.here hx rfl (pc0 := 73) (pc' := 103) rfl (hb hby at_73) (by decide) (by decide) ?_
        exact kt
      · by_cases hc79 : p2 < cb
        · refine ⟨(-1 : Int32), by simp [own_exp, hc55, hc67, hc79], fun target kt => ?_⟩
          show Steps p.tables e below (T9_7.setTop (mkF m 52 #[.val (.int p1), .val (.int p2), .val (.int p3), .val (.int p4), .val (.int p5), .val (.int lb), .val (.int cb), .val (.ref b6_7), .val (.ref b8_7), .unset] [])) _
          refine XS.iloadN X9_7.here hx rfl (hb hby at_52) rfl ?_
          show Steps p.tables e below (T9_7.setTop (mkF m 53 #[.val (.int p1), .val (.int p2), .val (.int p3), .val (.int p4), .val (.int p5), .val (.int lb), .val (.int cb), .val (.ref b6_7), .val (.ref b8_7), .unset] [(.int p1)])) _
          refine XS.iload X9_7.here hx rfl (hb hby at_53) rfl ?_
          show Steps p.tables e below (T9_7.setTop (mkF m 55 #[.val (.int p1), .val (.int p2), .val (.int p3), .val (.int p4), .val (.int p5), .val (.int lb), .val (.int cb), .val (.ref b6_7), .val (.ref b8_7), .unset] [(.int lb), (.int p1)])) _
          refine XS.icmpYes X9_7.here hx rfl (pc0 := 55) (pc' := 64) rfl (hb hby at_55) rfl (flt hc55).2.1 (by decide) (by decide) ?_
          show Steps p.tables e below (T9_7.setTop (mkF m 64 #[.val (.int p1), .val (.int p2), .val (.int p3), .val (.int p4), .val (.int p5), .val (.int lb), .val (.int cb), .val (.ref b6_7), .val (.ref b8_7), .unset] [])) _
          refine XS.iloadN X9_7.here hx rfl (hb hby at_64) rfl ?_
          show Steps p.tables e below (T9_7.setTop (mkF m 65 #[.val (.int p1), .val (.int p2), .val (.int p3), .val (.int p4), .val (.int p5), .val (.int lb), .val (.int cb), .val (.ref b6_7), .val (.ref b8_7), .unset] [(.int p1)])) _
          refine XS.iload X9_7.here hx rfl (hb hby at_65) rfl ?_
          show Steps p.tables e below (T9_7.setTop (mkF m 67 #[.val (.int p1), .val (.int p2), .val (.int p3), .val (.int p4), .val (.int p5), .val (.int lb), .val (.int cb), .val (.ref b6_7), .val (.ref b8_7), .unset] [(.int lb), (.int p1)])) _
          refine XS.icmpYes X9_7.here hx rfl (pc0 := 67) (pc' := 76) rfl (hb hby at_67) rfl (flt hc67).2.2.2 (by decide) (by decide) ?_
          show Steps p.tables e below (T9_7.setTop (mkF m 76 #[.val (.int p1), .val (.int p2), .val (.int p3), .val (.int p4), .val (.int p5), .val (.int lb), .val (.int cb), .val (.ref b6_7), .val (.ref b8_7), .unset] [])) _
          refine XS.iloadN X9_7.here hx rfl (hb hby at_76) rfl ?_
          show Steps p.tables e below (T9_7.setTop (mkF m 77 #[.val (.int p1), .val (.int p2), .val (.int p3), .val (.int p4), .val (.int p5), .val (.int lb), .val (.int cb), .val (.ref b6_7), .val (.ref b8_7), .unset] [(.int p2)])) _
          refine XS.iload X9_7.here hx rfl (hb hby at_77) rfl ?_
          show Steps p.tables e below (T9_7.setTop (mkF m 79 #[.val (.int p1), .val (.int p2), .val (.int p3), .val (.int p4), .val (.int p5), .val (.int lb), .val (.int cb), .val (.ref b6_7), .val (.ref b8_7), .unset] [(.int cb), (.int p2)])) _
          refine XS.icmpNo X9_7.here hx rfl (hb hby at_79) rfl (tlt hc79).2.1 ?_
          show Steps p.tables e below (T9_7.setTop (mkF m 82 #[.val (.int p1), .val (.int p2), .val (.int p3), .val (.int p4), .val (.int p5), .val (.int lb), .val (.int cb), .val (.ref b6_7), .val (.ref b8_7), .unset] [])) _
          refine XS.iconst X9_7.here hx rfl (hb hby at_82) ?_
          show Steps p.tables e below (T9_7.setTop (mkF m 83 #[.val (.int p1), .val (.int p2), .val (.int p3), .val (.int p4), .val (.int p5), .val (.int lb), .val (.int cb), .val (.ref b6_7), .val (.ref b8_7), .unset] [(.int (-1 : Int32))])) _
          refine XS.istore X9_7.here hx rfl (hb hby at_83) rfl (l' := #[.val (.int p1), .val (.int p2), .val (.int p3), .val (.int p4), .val (.int p5), .val (.int lb), .val (.int cb), .val (.ref b6_7), .val (.ref b8_7), .val (.int (-1 : Int32))]) rfl ?_
          show Steps p.tables e below (T9_7.setTop (mkF m 85 #[.val (.int p1), .val (.int p2), .val (.int p3), .val (.int p4), .val (.int p5), .val (.int lb), .val (.int cb), .val (.ref b6_7), .val (.ref b8_7), .val (.int (-1 : Int32))] [])) _
          refine XS.goto X9_7.here hx rfl (pc0 := 85) (pc' := 103) rfl (hb hby at_85) (by decide) (by decide) ?_
          exact kt
        · by_cases hc91 : cb < p2
          · refine ⟨(1 : Int32), by simp [own_exp, hc55, hc67, hc79, hc91], fun target kt => ?_⟩
            show Steps p.tables e below (T9_7.setTop (mkF m 52 #[.val (.int p1), .val (.int p2), .val (.int p3), .val (.int p4), .val (.int p5), .val (.int lb), .val (.int cb), .val (.ref b6_7), .val (.ref b8_7), .unset] [])) _
            refine XS.iloadN X9_7.here hx rfl (hb hby at_52) rfl ?_
            show Steps p.tables e below (T9_7.setTop (mkF m 53 #[.val (.int p1), .val (.int p2), .val (.int p3), .val (.int p4), .val (.int p5), .val (.int lb), .val (.int cb), .val (.ref b6_7), .val (.ref b8_7), .unset] [(.int p1)])) _
            refine XS.iload X9_7.here hx rfl (hb hby at_53) rfl ?_
            show Steps p.tables e below (T9_7.setTop (mkF m 55 #[.val (.int p1), .val (.int p2), .val (.int p3), .val (.int p4), .val (.int p5), .val (.int lb), .val (.int cb), .val (.ref b6_7), .val (.ref b8_7), .unset] [(.int lb), (.int p1)])) _
            refine XS.icmpYes X9_7.here hx rfl (pc0 := 55) (pc' := 64) rfl (hb hby at_55) rfl (flt hc55).2.1 (by decide) (by decide) ?_
            show Steps p.tables e below (T9_7.setTop (mkF m 64 #[.val (.int p1), .val (.int p2), .val (.int p3), .val (.int p4), .val (.int p5), .val (.int lb), .val (.int cb), .val (.ref b6_7), .val (.ref b8_7), .unset] [])) _
            refine XS.iloadN X9_7.here hx rfl (hb hby at_64) rfl ?_
            show Steps p.tables e below (T9_7.setTop (mkF m 65 #[.val (.int p1), .val (.int p2), .val (.int p3), .val (.int p4), .val (.int p5), .val (.int lb), .val (.int cb), .val (.ref b6_7), .val (.ref b8_7), .unset] [(.int p1)])) _
            refine XS.iload X9_7.here hx rfl (hb hby at_65) rfl ?_
            show Steps p.tables e below (T9_7.setTop (mkF m 67 #[.val (.int p1), .val (.int p2), .val (.int p3), .val (.int p4), .val (.int p5), .val (.int lb), .val (.int cb), .val (.ref b6_7), .val (.ref b8_7), .unset] [(.int lb), (.int p1)])) _
            refine XS.icmpYes X9_7.here hx rfl (pc0 := 67) (pc' := 76) rfl (hb hby at_67) rfl (flt hc67).2.2.2 (by decide) (by decide) ?_
            show Steps p.tables e below (T9_7.setTop (mkF m 76 #[.val (.int p1), .val (.int p2), .val (.int p3), .val (.int p4), .val (.int p5), .val (.int lb), .val (.int cb), .val (.ref b6_7), .val (.ref b8_7), .unset] [])) _
            refine XS.iloadN X9_7.here hx rfl (hb hby at_76) rfl ?_
            show Steps p.tables e below (T9_7.setTop (mkF m 77 #[.val (.int p1), .val (.int p2), .val (.int p3), .val (.int p4), .val (.int p5), .val (.int lb), .val (.int cb), .val (.ref b6_7), .val (.ref b8_7), .unset] [(.int p2)])) _
            refine XS.iload X9_7.here hx rfl (hb hby at_77) rfl ?_
            show Steps p.tables e below (T9_7.setTop (mkF m 79 #[.val (.int p1), .val (.int p2), .val (.int p3), .val (.int p4), .val (.int p5), .val (.int lb), .val (.int cb), .val (.ref b6_7), .val (.ref b8_7), .unset] [(.int cb), (.int p2)])) _
            refine XS.icmpYes X9_7.here hx rfl (pc0 := 79) (pc' := 88) rfl (hb hby at_79) rfl (flt hc79).2.1 (by decide) (by decide) ?_
            show Steps p.tables e below (T9_7.setTop (mkF m 88 #[.val (.int p1), .val (.int p2), .val (.int p3), .val (.int p4), .val (.int p5), .val (.int lb), .val (.int cb), .val (.ref b6_7), .val (.ref b8_7), .unset] [])) _
            refine XS.iloadN X9_7.here hx rfl (hb hby at_88) rfl ?_
            show Steps p.tables e below (T9_7.setTop (mkF m 89 #[.val (.int p1), .val (.int p2), .val (.int p3), .val (.int p4), .val (.int p5), .val (.int lb), .val (.int cb), .val (.ref b6_7), .val (.ref b8_7), .unset] [(.int p2)])) _
            refine XS.iload X9_7.here hx rfl (hb hby at_89) rfl ?_
            show Steps p.tables e below (T9_7.setTop (mkF m 91 #[.val (.int p1), .val (.int p2), .val (.int p3), .val (.int p4), .val (.int p5), .val (.int lb), .val (.int cb), .val (.ref b6_7), .val (.ref b8_7), .unset] [(.int cb), (.int p2)])) _
            refine XS.icmpNo X9_7.here hx rfl (hb hby at_91) rfl (tlt hc91).2.2.2 ?_
            show Steps p.tables e below (T9_7.setTop (mkF m 94 #[.val (.int p1), .val (.int p2), .val (.int p3), .val (.int p4), .val (.int p5), .val (.int lb), .val (.int cb), .val (.ref b6_7), .val (.ref b8_7), .unset] [])) _
            refine XS.iconst X9_7.here hx rfl (hb hby at_94) ?_
            show Steps p.tables e below (T9_7.setTop (mkF m 95 #[.val (.int p1), .val (.int p2), .val (.int p3), .val (.int p4), .val (.int p5), .val (.int lb), .val (.int cb), .val (.ref b6_7), .val (.ref b8_7), .unset] [(.int (1 : Int32))])) _
            refine XS.istore X9_7.here hx rfl (hb hby at_95) rfl (l' := #[.val (.int p1), .val (.int p2), .val (.int p3), .val (.int p4), .val (.int p5), .val (.int lb), .val (.int cb), .val (.ref b6_7), .val (.ref b8_7), .val (.int (1 : Int32))]) rfl ?_
            show Steps p.tables e below (T9_7.setTop (mkF m 97 #[.val (.int p1), .val (.int p2), .val (.int p3), .val (.int p4), .val (.int p5), .val (.int lb), .val (.int cb), .val (.ref b6_7), .val (.ref b8_7), .val (.int (1 : Int32))] [])) _
            refine XS.goto X9_7.here hx rfl (pc0 := 97) (pc' := 103) rfl (hb hby at_97) (by decide) (by decide) ?_
            exact kt
          · refine ⟨(0 : Int32), by simp [own_exp, hc55, hc67, hc79, hc91], fun target kt => ?_⟩
            show Steps p.tables e below (T9_7.setTop (mkF m 52 #[.val (.int p1), .val (.int p2), .val (.int p3), .val (.int p4), .val (.int p5), .val (.int lb), .val (.int cb), .val (.ref b6_7), .val (.ref b8_7), .unset] [])) _
            refine XS.iloadN X9_7.here hx rfl (hb hby at_52) rfl ?_
            show Steps p.tables e below (T9_7.setTop (mkF m 53 #[.val (.int p1), .val (.int p2), .val (.int p3), .val (.int p4), .val (.int p5), .val (.int lb), .val (.int cb), .val (.ref b6_7), .val (.ref b8_7), .unset] [(.int p1)])) _
            refine XS.iload X9_7.here hx rfl (hb hby at_53) rfl ?_
            show Steps p.tables e below (T9_7.setTop (mkF m 55 #[.val (.int p1), .val (.int p2), .val (.int p3), .val (.int p4), .val (.int p5), .val (.int lb), .val (.int cb), .val (.ref b6_7), .val (.ref b8_7), .unset] [(.int lb), (.int p1)])) _
            refine XS.icmpYes X9_7.here hx rfl (pc0 := 55) (pc' := 64) rfl (hb hby at_55) rfl (flt hc55).2.1 (by decide) (by decide) ?_
            show Steps p.tables e below (T9_7.setTop (mkF m 64 #[.val (.int p1), .val (.int p2), .val (.int p3), .val (.int p4), .val (.int p5), .val (.int lb), .val (.int cb), .val (.ref b6_7), .val (.ref b8_7), .unset] [])) _
            refine XS.iloadN X9_7.here hx rfl (hb hby at_64) rfl ?_
            show Steps p.tables e below (T9_7.setTop (mkF m 65 #[.val (.int p1), .val (.int p2), .val (.int p3), .val (.int p4), .val (.int p5), .val (.int lb), .val (.int cb), .val (.ref b6_7), .val (.ref b8_7), .unset] [(.int p1)])) _
            refine XS.iload X9_7.here hx rfl (hb hby at_65) rfl ?_
            show Steps p.tables e below (T9_7.setTop (mkF m 67 #[.val (.int p1), .val (.int p2), .val (.int p3), .val (.int p4), .val (.int p5), .val (.int lb), .val (.int cb), .val (.ref b6_7), .val (.ref b8_7), .unset] [(.int lb), (.int p1)])) _
            refine XS.icmpYes X9_7.here hx rfl (pc0 := 67) (pc' := 76) rfl (hb hby at_67) rfl (flt hc67).2.2.2 (by decide) (by decide) ?_
            show Steps p.tables e below (T9_7.setTop (mkF m 76 #[.val (.int p1), .val (.int p2), .val (.int p3), .val (.int p4), .val (.int p5), .val (.int lb), .val (.int cb), .val (.ref b6_7), .val (.ref b8_7), .unset] [])) _
            refine XS.iloadN X9_7.here hx rfl (hb hby at_76) rfl ?_
            show Steps p.tables e below (T9_7.setTop (mkF m 77 #[.val (.int p1), .val (.int p2), .val (.int p3), .val (.int p4), .val (.int p5), .val (.int lb), .val (.int cb), .val (.ref b6_7), .val (.ref b8_7), .unset] [(.int p2)])) _
            refine XS.iload X9_7.here hx rfl (hb hby at_77) rfl ?_
            show Steps p.tables e below (T9_7.setTop (mkF m 79 #[.val (.int p1), .val (.int p2), .val (.int p3), .val (.int p4), .val (.int p5), .val (.int lb), .val (.int cb), .val (.ref b6_7), .val (.ref b8_7), .unset] [(.int cb), (.int p2)])) _
            refine XS.icmpYes X9_7.here hx rfl (pc0 := 79) (pc' := 88) rfl (hb hby at_79) rfl (flt hc79).2.1 (by decide) (by decide) ?_
            show Steps p.tables e below (T9_7.setTop (mkF m 88 #[.val (.int p1), .val (.int p2), .val (.int p3), .val (.int p4), .val (.int p5), .val (.int lb), .val (.int cb), .val (.ref b6_7), .val (.ref b8_7), .unset] [])) _
            refine XS.iloadN X9_7.here hx rfl (hb hby at_88) rfl ?_
            show Steps p.tables e below (T9_7.setTop (mkF m 89 #[.val (.int p1), .val (.int p2), .val (.int p3), .val (.int p4), .val (.int p5), .val (.int lb), .val (.int cb), .val (.ref b6_7), .val (.ref b8_7), .unset] [(.int p2)])) _
            refine XS.iload X9_7.here hx rfl (hb hby at_89) rfl ?_
            show Steps p.tables e below (T9_7.setTop (mkF m 91 #[.val (.int p1), .val (.int p2), .val (.int p3), .val (.int p4), .val (.int p5), .val (.int lb), .val (.int cb), .val (.ref b6_7), .val (.ref b8_7), .unset] [(.int cb), (.int p2)])) _
            refine XS.icmpYes X9_7.here hx rfl (pc0 := 91) (pc' := 100) rfl (hb hby at_91) rfl (flt hc91).2.2.2 (by decide) (by decide) ?_
            show Steps p.tables e below (T9_7.setTop (mkF m 100 #[.val (.int p1), .val (.int p2), .val (.int p3), .val (.int p4), .val (.int p5), .val (.int lb), .val (.int cb), .val (.ref b6_7), .val (.ref b8_7), .unset] [])) _
            refine XS.iconst X9_7.here hx rfl (hb hby at_100) ?_
            show Steps p.tables e below (T9_7.setTop (mkF m 101 #[.val (.int p1), .val (.int p2), .val (.int p3), .val (.int p4), .val (.int p5), .val (.int lb), .val (.int cb), .val (.ref b6_7), .val (.ref b8_7), .unset] [(.int (0 : Int32))])) _
            refine XS.istore X9_7.here hx rfl (hb hby at_101) rfl (l' := #[.val (.int p1), .val (.int p2), .val (.int p3), .val (.int p4), .val (.int p5), .val (.int lb), .val (.int cb), .val (.ref b6_7), .val (.ref b8_7), .val (.int (0 : Int32))]) rfl ?_
            exact kt
  obtain ⟨cq6_14, kq6_14, q6a_14, q6b_14, q6c_14⟩ := isOf hZ (rfl : T9_7.heap = _) Exa1
  obtain ⟨_, _, ⟨T6_14, L6_14, k6_14, n6_14⟩, -, X6_14, ⟨Lc6_14, hQ6_14, l6_14, y6_14, z6_14⟩, st6_14⟩ := X9_7.virtualBack hx (y := (⟨"com/example/descender/descender/Position", "compareTo", "(Lcom/example/descender/descender/Position;)I"⟩ : MethodName)) (z := (⟨"com/example/descender/descender/Position", "compareTo", "(Lcom/example/descender/descender/Position;)I"⟩ : MethodName)) hown (mvT hZ (hw _ (List.mem_of_getElem? (i := 18) rfl))) (mvT hZ (hw _ (List.mem_of_getElem? (i := 19) rfl))) (notFace_of_selects (args := #[]) (mvT hZ (hw _ (List.mem_of_getElem? (i := 21) rfl)))) (mvT hZ (hw _ (List.mem_of_getElem? (i := 21) rfl))) (mvT hZ (hw _ (List.mem_of_getElem? (i := 20) rfl))) (by decide) (backOf (W := 0) (rm4 l Z a0 hw [] b6_7 b8_7 p1 p2 lb cb T9_7.heap n0 Zc Fa1 Fa2 Fb1 Fb2) hZ (hw _ (List.mem_of_getElem? (i := 22) rfl)) (hw _ (List.mem_of_getElem? (i := 2) rfl)) (by decide) (by decide)) q6a_14 q6c_14 (g := (mkF m 107 #[.val (.int p1), .val (.int p2), .val (.int p3), .val (.int p4), .val (.int p5), .val (.int lb), .val (.int cb), .val (.ref b6_7), .val (.ref b8_7), .val (.int ex)] [(.ref b8_7), (.ref b6_7)])) rfl (by rw [hml]; rfl) (Steps.refl _) (argsL := [(.ref b8_7)]) (rest := []) (lenOf pd_3 rfl) rfl (by show 2 * 0 + _ ≤ _; exact Nat.le_of_eq rfl) (hb hby at_107) (fun _ _ => ⟨rfl, (rfl : T9_7.heap = _), (by decide : 0 + 2 + 0 ≤ _), (by decide : 0 + 4 + 0 ≤ _)⟩)
  dsimp only [Pt.U, Pt.locs, Pt.cells, Pt.slots] at X6_14 l6_14 y6_14 z6_14 st6_14 hQ6_14
  subst l6_14 y6_14 z6_14
  obtain ⟨rfl, N6q_14, g6_14⟩ := hQ6_14
  have N6_14 := Fr.app N9_7 N6q_14
  obtain ⟨_, _, ⟨T7_14, L7_14, k7_14, n7_14⟩, -, X7_14, ⟨Lc7_14, hQ7_14, l7_14, y7_14, z7_14⟩, st7_14⟩ := Jvm.LawKit.callS X6_14 hx (y := (⟨"com/example/descender/descender/PositionCompareToPinLaw", "sgn", "(I)I"⟩ : MethodName)) hown (mvT hZ (hw _ (List.mem_of_getElem? (i := 27) rfl))) (mvT hZ (hw _ (List.mem_of_getElem? (i := 28) rfl))) (mvT hZ (hw _ (List.mem_of_getElem? (i := 29) rfl))) (mvT hZ (hw _ (List.mem_of_getElem? (i := 30) rfl))) (by decide) (backOf (W := 0) (rm6 l Z a0 hw [] (own_cto p1 p2 lb cb) T6_14.heap n0 (own_zk Zc (g6_14))) hZ (hw _ (List.mem_of_getElem? (i := 30) rfl)) (hw _ (List.mem_of_getElem? (i := 29) rfl)) (by decide) (by decide)) (g := (mkF m 110 #[.val (.int p1), .val (.int p2), .val (.int p3), .val (.int p4), .val (.int p5), .val (.int lb), .val (.int cb), .val (.ref b6_7), .val (.ref b8_7), .val (.int ex)] [(.int (own_cto p1 p2 lb cb))])) rfl (by rw [hml]; rfl) (argsL := [(.int (own_cto p1 p2 lb cb))]) (rest := []) (lenOf pd_4 rfl) rfl (by show 2 * 0 + _ ≤ _; exact Nat.le_of_eq rfl) (hb hby at_110) (fun _ _ => ⟨rfl, rfl, (by decide : 0 + 2 + 0 ≤ _), (by decide : 0 + 4 + 0 ≤ _)⟩)
  dsimp only [Pt.U, Pt.locs, Pt.cells, Pt.slots] at X7_14 l7_14 y7_14 z7_14 st7_14 hQ7_14
  subst l7_14 y7_14 z7_14
  obtain ⟨rfl, N7q_14, g7_14⟩ := hQ7_14
  have N7_14 := Fr.app N6_14 N7q_14
  obtain ⟨cq8_14, kq8_14, q8a_14, q8b_14, q8c_14⟩ := isOf hZ rfl ((Exb1.keep (own_kp g6_14)).keep (own_kp g7_14))
  obtain ⟨_, _, ⟨T8_14, L8_14, k8_14, n8_14⟩, -, X8_14, ⟨Lc8_14, hQ8_14, l8_14, y8_14, z8_14⟩, st8_14⟩ := X7_14.virtualBack hx (y := (⟨"com/example/descender/descender/Position", "compareTo", "(Lcom/example/descender/descender/Position;)I"⟩ : MethodName)) (z := (⟨"com/example/descender/descender/Position", "compareTo", "(Lcom/example/descender/descender/Position;)I"⟩ : MethodName)) hown (mvT hZ (hw _ (List.mem_of_getElem? (i := 18) rfl))) (mvT hZ (hw _ (List.mem_of_getElem? (i := 19) rfl))) (notFace_of_selects (args := #[]) (mvT hZ (hw _ (List.mem_of_getElem? (i := 21) rfl)))) (mvT hZ (hw _ (List.mem_of_getElem? (i := 21) rfl))) (mvT hZ (hw _ (List.mem_of_getElem? (i := 20) rfl))) (by decide) (backOf (W := 0) (rm4 l Z a0 hw [] b8_7 b6_7 lb cb p1 p2 T7_14.heap n0 (own_zk Zc (g7_14.trans (g6_14))) (own_fk Fb1 (g7_14.trans (g6_14))) (own_fk Fb2 (g7_14.trans (g6_14))) (own_fk Fa1 (g7_14.trans (g6_14))) (own_fk Fa2 (g7_14.trans (g6_14)))) hZ (hw _ (List.mem_of_getElem? (i := 22) rfl)) (hw _ (List.mem_of_getElem? (i := 2) rfl)) (by decide) (by decide)) q8a_14 q8c_14 (g := (mkF m 122 #[.val (.int p1), .val (.int p2), .val (.int p3), .val (.int p4), .val (.int p5), .val (.int lb), .val (.int cb), .val (.ref b6_7), .val (.ref b8_7), .val (.int ex)] [(.ref b6_7), (.ref b8_7)])) rfl (by rw [hml]; rfl) (Steps.refl _) (argsL := [(.ref b6_7)]) (rest := []) (lenOf pd_3 rfl) rfl (by show 2 * 0 + _ ≤ _; exact Nat.le_of_eq rfl) (hb hby at_122) (fun _ _ => ⟨rfl, rfl, (by decide : 0 + 2 + 0 ≤ _), (by decide : 0 + 4 + 0 ≤ _)⟩)
  dsimp only [Pt.U, Pt.locs, Pt.cells, Pt.slots] at X8_14 l8_14 y8_14 z8_14 st8_14 hQ8_14
  subst l8_14 y8_14 z8_14
  obtain ⟨rfl, N8q_14, g8_14⟩ := hQ8_14
  have N8_14 := Fr.app N7_14 N8q_14
  obtain ⟨_, _, ⟨T9_14, L9_14, k9_14, n9_14⟩, -, X9_14, ⟨Lc9_14, hQ9_14, l9_14, y9_14, z9_14⟩, st9_14⟩ := Jvm.LawKit.callS X8_14 hx (y := (⟨"com/example/descender/descender/PositionCompareToPinLaw", "sgn", "(I)I"⟩ : MethodName)) hown (mvT hZ (hw _ (List.mem_of_getElem? (i := 27) rfl))) (mvT hZ (hw _ (List.mem_of_getElem? (i := 28) rfl))) (mvT hZ (hw _ (List.mem_of_getElem? (i := 29) rfl))) (mvT hZ (hw _ (List.mem_of_getElem? (i := 30) rfl))) (by decide) (backOf (W := 0) (rm6 l Z a0 hw [] (own_cto lb cb p1 p2) T8_14.heap n0 (own_zk Zc (g8_14.trans (g7_14.trans (g6_14))))) hZ (hw _ (List.mem_of_getElem? (i := 30) rfl)) (hw _ (List.mem_of_getElem? (i := 29) rfl)) (by decide) (by decide)) (g := (mkF m 125 #[.val (.int p1), .val (.int p2), .val (.int p3), .val (.int p4), .val (.int p5), .val (.int lb), .val (.int cb), .val (.ref b6_7), .val (.ref b8_7), .val (.int ex)] [(.int (own_cto lb cb p1 p2))])) rfl (by rw [hml]; rfl) (argsL := [(.int (own_cto lb cb p1 p2))]) (rest := []) (lenOf pd_4 rfl) rfl (by show 2 * 0 + _ ≤ _; exact Nat.le_of_eq rfl) (hb hby at_125) (fun _ _ => ⟨rfl, rfl, (by decide : 0 + 2 + 0 ≤ _), (by decide : 0 + 4 + 0 ≤ _)⟩)
  dsimp only [Pt.U, Pt.locs, Pt.cells, Pt.slots] at X9_14 l9_14 y9_14 z9_14 st9_14 hQ9_14
  subst l9_14 y9_14 z9_14
  obtain ⟨rfl, N9q_14, g9_14⟩ := hQ9_14
  have N9_14 := Fr.app N8_14 N9q_14
  obtain ⟨cq10_14, kq10_14, q10a_14, q10b_14, q10c_14⟩ := isOf hZ rfl ((((Exa1.keep (own_kp g6_14)).keep (own_kp g7_14)).keep (own_kp g8_14)).keep (own_kp g9_14))
  obtain ⟨_, _, ⟨T10_14, L10_14, k10_14, n10_14⟩, -, X10_14, ⟨Lc10_14, hQ10_14, l10_14, y10_14, z10_14⟩, st10_14⟩ := X9_14.virtualBack hx (y := (⟨"com/example/descender/descender/Position", "compareTo", "(Lcom/example/descender/descender/Position;)I"⟩ : MethodName)) (z := (⟨"com/example/descender/descender/Position", "compareTo", "(Lcom/example/descender/descender/Position;)I"⟩ : MethodName)) hown (mvT hZ (hw _ (List.mem_of_getElem? (i := 18) rfl))) (mvT hZ (hw _ (List.mem_of_getElem? (i := 19) rfl))) (notFace_of_selects (args := #[]) (mvT hZ (hw _ (List.mem_of_getElem? (i := 21) rfl)))) (mvT hZ (hw _ (List.mem_of_getElem? (i := 21) rfl))) (mvT hZ (hw _ (List.mem_of_getElem? (i := 20) rfl))) (by decide) (backOf (W := 0) (rm4 l Z a0 hw [] b6_7 b6_7 p1 p2 p1 p2 T9_14.heap n0 (own_zk Zc (g9_14.trans (g8_14.trans (g7_14.trans (g6_14))))) (own_fk Fa1 (g9_14.trans (g8_14.trans (g7_14.trans (g6_14))))) (own_fk Fa2 (g9_14.trans (g8_14.trans (g7_14.trans (g6_14))))) (own_fk Fa1 (g9_14.trans (g8_14.trans (g7_14.trans (g6_14))))) (own_fk Fa2 (g9_14.trans (g8_14.trans (g7_14.trans (g6_14)))))) hZ (hw _ (List.mem_of_getElem? (i := 22) rfl)) (hw _ (List.mem_of_getElem? (i := 2) rfl)) (by decide) (by decide)) q10a_14 q10c_14 (g := (mkF m 138 #[.val (.int p1), .val (.int p2), .val (.int p3), .val (.int p4), .val (.int p5), .val (.int lb), .val (.int cb), .val (.ref b6_7), .val (.ref b8_7), .val (.int ex)] [(.ref b6_7), (.ref b6_7)])) rfl (by rw [hml]; rfl) (Steps.refl _) (argsL := [(.ref b6_7)]) (rest := []) (lenOf pd_3 rfl) rfl (by show 2 * 0 + _ ≤ _; exact Nat.le_of_eq rfl) (hb hby at_138) (fun _ _ => ⟨rfl, rfl, (by decide : 0 + 2 + 0 ≤ _), (by decide : 0 + 4 + 0 ≤ _)⟩)
  dsimp only [Pt.U, Pt.locs, Pt.cells, Pt.slots] at X10_14 l10_14 y10_14 z10_14 st10_14 hQ10_14
  subst l10_14 y10_14 z10_14
  obtain ⟨rfl, N10q_14, g10_14⟩ := hQ10_14
  have N10_14 := Fr.app N9_14 N10q_14
  obtain ⟨_, _, ⟨T11_14, L11_14, k11_14, n11_14⟩, -, X11_14, ⟨Lc11_14, hQ11_14, l11_14, y11_14, z11_14⟩, st11_14⟩ := Jvm.LawKit.callS X10_14 hx (y := (⟨"com/example/descender/descender/PositionCompareToPinLaw", "sgn", "(I)I"⟩ : MethodName)) hown (mvT hZ (hw _ (List.mem_of_getElem? (i := 27) rfl))) (mvT hZ (hw _ (List.mem_of_getElem? (i := 28) rfl))) (mvT hZ (hw _ (List.mem_of_getElem? (i := 29) rfl))) (mvT hZ (hw _ (List.mem_of_getElem? (i := 30) rfl))) (by decide) (backOf (W := 0) (rm6 l Z a0 hw [] (own_cto p1 p2 p1 p2) T10_14.heap n0 (own_zk Zc (g10_14.trans (g9_14.trans (g8_14.trans (g7_14.trans (g6_14))))))) hZ (hw _ (List.mem_of_getElem? (i := 30) rfl)) (hw _ (List.mem_of_getElem? (i := 29) rfl)) (by decide) (by decide)) (g := (mkF m 141 #[.val (.int p1), .val (.int p2), .val (.int p3), .val (.int p4), .val (.int p5), .val (.int lb), .val (.int cb), .val (.ref b6_7), .val (.ref b8_7), .val (.int ex)] [(.int (own_cto p1 p2 p1 p2))])) rfl (by rw [hml]; rfl) (argsL := [(.int (own_cto p1 p2 p1 p2))]) (rest := []) (lenOf pd_4 rfl) rfl (by show 2 * 0 + _ ≤ _; exact Nat.le_of_eq rfl) (hb hby at_141) (fun _ _ => ⟨rfl, rfl, (by decide : 0 + 2 + 0 ≤ _), (by decide : 0 + 4 + 0 ≤ _)⟩)
  dsimp only [Pt.U, Pt.locs, Pt.cells, Pt.slots] at X11_14 l11_14 y11_14 z11_14 st11_14 hQ11_14
  subst l11_14 y11_14 z11_14
  obtain ⟨rfl, N11q_14, g11_14⟩ := hQ11_14
  have N11_14 := Fr.app N10_14 N11q_14
  have st_14p : ∀ target, Steps p.tables e below (T11_14.setTop (mkF m 152 #[.val (.int p1), .val (.int p2), .val (.int p3), .val (.int p4), .val (.int p5), .val (.int lb), .val (.int cb), .val (.ref b6_7), .val (.ref b8_7), .val (.int ex)] [(.int (1 : Int32))])) target → Steps p.tables e below (T9_7.setTop (mkF m 103 #[.val (.int p1), .val (.int p2), .val (.int p3), .val (.int p4), .val (.int p5), .val (.int lb), .val (.int cb), .val (.ref b6_7), .val (.ref b8_7), .val (.int ex)] [])) target := by
    intro target kt
    show Steps p.tables e below (T9_7.setTop (mkF m 103 #[.val (.int p1), .val (.int p2), .val (.int p3), .val (.int p4), .val (.int p5), .val (.int lb), .val (.int cb), .val (.ref b6_7), .val (.ref b8_7), .val (.int ex)] [])) _
    refine XS.aload X9_7.here hx rfl (hb hby at_103) rfl rfl ?_
    show Steps p.tables e below (T9_7.setTop (mkF m 105 #[.val (.int p1), .val (.int p2), .val (.int p3), .val (.int p4), .val (.int p5), .val (.int lb), .val (.int cb), .val (.ref b6_7), .val (.ref b8_7), .val (.int ex)] [(.ref b6_7)])) _
    refine XS.aload X9_7.here hx rfl (hb hby at_105) rfl rfl ?_
    show Steps p.tables e below (T9_7.setTop (mkF m 107 #[.val (.int p1), .val (.int p2), .val (.int p3), .val (.int p4), .val (.int p5), .val (.int lb), .val (.int cb), .val (.ref b6_7), .val (.ref b8_7), .val (.int ex)] [(.ref b8_7), (.ref b6_7)])) _
    refine st6_14.trans ?_
    show Steps p.tables e below (T6_14.setTop (mkF m 110 #[.val (.int p1), .val (.int p2), .val (.int p3), .val (.int p4), .val (.int p5), .val (.int lb), .val (.int cb), .val (.ref b6_7), .val (.ref b8_7), .val (.int ex)] [(.int (own_cto p1 p2 lb cb))])) _
    refine st7_14 _ ?_
    show Steps p.tables e below (T7_14.setTop (mkF m 113 #[.val (.int p1), .val (.int p2), .val (.int p3), .val (.int p4), .val (.int p5), .val (.int lb), .val (.int cb), .val (.ref b6_7), .val (.ref b8_7), .val (.int ex)] [(.int (own_sgn (own_cto p1 p2 lb cb)))])) _
    refine XS.iload X7_14.here hx rfl (hb hby at_113) rfl ?_
    show Steps p.tables e below (T7_14.setTop (mkF m 115 #[.val (.int p1), .val (.int p2), .val (.int p3), .val (.int p4), .val (.int p5), .val (.int lb), .val (.int cb), .val (.ref b6_7), .val (.ref b8_7), .val (.int ex)] [(.int ex), (.int (own_sgn (own_cto p1 p2 lb cb)))])) _
    refine XS.icmpNo X7_14.here hx rfl (hb hby at_115) rfl (teq (hex ▸ own_1 p1 p2 lb cb : (own_sgn (own_cto p1 p2 lb cb)) = ex)).2 ?_
    show Steps p.tables e below (T7_14.setTop (mkF m 118 #[.val (.int p1), .val (.int p2), .val (.int p3), .val (.int p4), .val (.int p5), .val (.int lb), .val (.int cb), .val (.ref b6_7), .val (.ref b8_7), .val (.int ex)] [])) _
    refine XS.aload X7_14.here hx rfl (hb hby at_118) rfl rfl ?_
    show Steps p.tables e below (T7_14.setTop (mkF m 120 #[.val (.int p1), .val (.int p2), .val (.int p3), .val (.int p4), .val (.int p5), .val (.int lb), .val (.int cb), .val (.ref b6_7), .val (.ref b8_7), .val (.int ex)] [(.ref b8_7)])) _
    refine XS.aload X7_14.here hx rfl (hb hby at_120) rfl rfl ?_
    show Steps p.tables e below (T7_14.setTop (mkF m 122 #[.val (.int p1), .val (.int p2), .val (.int p3), .val (.int p4), .val (.int p5), .val (.int lb), .val (.int cb), .val (.ref b6_7), .val (.ref b8_7), .val (.int ex)] [(.ref b6_7), (.ref b8_7)])) _
    refine st8_14.trans ?_
    show Steps p.tables e below (T8_14.setTop (mkF m 125 #[.val (.int p1), .val (.int p2), .val (.int p3), .val (.int p4), .val (.int p5), .val (.int lb), .val (.int cb), .val (.ref b6_7), .val (.ref b8_7), .val (.int ex)] [(.int (own_cto lb cb p1 p2))])) _
    refine st9_14 _ ?_
    show Steps p.tables e below (T9_14.setTop (mkF m 128 #[.val (.int p1), .val (.int p2), .val (.int p3), .val (.int p4), .val (.int p5), .val (.int lb), .val (.int cb), .val (.ref b6_7), .val (.ref b8_7), .val (.int ex)] [(.int (own_sgn (own_cto lb cb p1 p2)))])) _
    refine XS.iload X9_14.here hx rfl (hb hby at_128) rfl ?_
    show Steps p.tables e below (T9_14.setTop (mkF m 130 #[.val (.int p1), .val (.int p2), .val (.int p3), .val (.int p4), .val (.int p5), .val (.int lb), .val (.int cb), .val (.ref b6_7), .val (.ref b8_7), .val (.int ex)] [(.int ex), (.int (own_sgn (own_cto lb cb p1 p2)))])) _
    refine XS.ineg X9_14.here hx rfl (hb hby at_130) rfl ?_
    show Steps p.tables e below (T9_14.setTop (mkF m 131 #[.val (.int p1), .val (.int p2), .val (.int p3), .val (.int p4), .val (.int p5), .val (.int lb), .val (.int cb), .val (.ref b6_7), .val (.ref b8_7), .val (.int ex)] [(.int (-ex)), (.int (own_sgn (own_cto lb cb p1 p2)))])) _
    refine XS.icmpNo X9_14.here hx rfl (hb hby at_131) rfl (teq (hex ▸ own_2 p1 p2 lb cb : (own_sgn (own_cto lb cb p1 p2)) = (-ex))).2 ?_
    show Steps p.tables e below (T9_14.setTop (mkF m 134 #[.val (.int p1), .val (.int p2), .val (.int p3), .val (.int p4), .val (.int p5), .val (.int lb), .val (.int cb), .val (.ref b6_7), .val (.ref b8_7), .val (.int ex)] [])) _
    refine XS.aload X9_14.here hx rfl (hb hby at_134) rfl rfl ?_
    show Steps p.tables e below (T9_14.setTop (mkF m 136 #[.val (.int p1), .val (.int p2), .val (.int p3), .val (.int p4), .val (.int p5), .val (.int lb), .val (.int cb), .val (.ref b6_7), .val (.ref b8_7), .val (.int ex)] [(.ref b6_7)])) _
    refine XS.aload X9_14.here hx rfl (hb hby at_136) rfl rfl ?_
    show Steps p.tables e below (T9_14.setTop (mkF m 138 #[.val (.int p1), .val (.int p2), .val (.int p3), .val (.int p4), .val (.int p5), .val (.int lb), .val (.int cb), .val (.ref b6_7), .val (.ref b8_7), .val (.int ex)] [(.ref b6_7), (.ref b6_7)])) _
    refine st10_14.trans ?_
    show Steps p.tables e below (T10_14.setTop (mkF m 141 #[.val (.int p1), .val (.int p2), .val (.int p3), .val (.int p4), .val (.int p5), .val (.int lb), .val (.int cb), .val (.ref b6_7), .val (.ref b8_7), .val (.int ex)] [(.int (own_cto p1 p2 p1 p2))])) _
    refine st11_14 _ ?_
    show Steps p.tables e below (T11_14.setTop (mkF m 144 #[.val (.int p1), .val (.int p2), .val (.int p3), .val (.int p4), .val (.int p5), .val (.int lb), .val (.int cb), .val (.ref b6_7), .val (.ref b8_7), .val (.int ex)] [(.int (own_sgn (own_cto p1 p2 p1 p2)))])) _
    refine XS.ifNo X11_14.here hx rfl (hb hby at_144) rfl ((if0 _ _).trans (teq (own_3 p1 p2 : (own_sgn (own_cto p1 p2 p1 p2)) = (0 : Int32))).2) ?_
    show Steps p.tables e below (T11_14.setTop (mkF m 147 #[.val (.int p1), .val (.int p2), .val (.int p3), .val (.int p4), .val (.int p5), .val (.int lb), .val (.int cb), .val (.ref b6_7), .val (.ref b8_7), .val (.int ex)] [])) _
    refine XS.iconst X11_14.here hx rfl (hb hby at_147) ?_
    show Steps p.tables e below (T11_14.setTop (mkF m 148 #[.val (.int p1), .val (.int p2), .val (.int p3), .val (.int p4), .val (.int p5), .val (.int lb), .val (.int cb), .val (.ref b6_7), .val (.ref b8_7), .val (.int ex)] [(.int (1 : Int32))])) _
    refine XS.goto X11_14.here hx rfl (pc0 := 148) (pc' := 152) rfl (hb hby at_148) (by decide) (by decide) ?_
    exact kt
  obtain ⟨fs, hr, hrun, hended, hW, hsame⟩ := X11_14.leave (v := some (.int (1 : Int32))) (fun h => by rw [Bd.returns] at h; cases h)
  refine ⟨_, _, pre0 _ ?_, hrun, hended, _, _, rfl, ?_, ⟨_, rfl⟩, hW, hsame.mono (by decide) (by decide)⟩
  · show Steps p.tables e below (s₁.setTop (mkF m 0 #[.val (.int p1), .val (.int p2), .val (.int p3), .val (.int p4), .val (.int p5), .unset, .unset, .unset, .unset, .unset] [])) _
    refine st_3p _ ?_
    refine st_6p _ ?_
    refine st_7p _ ?_
    refine st_13p _ ?_
    refine st_14p _ ?_
    exact retN X11_14 hx (t := .boolean) Bd.returns (by simp) (hb hby at_152) hr
  · show Q0 Z p1 p2 p3 p4 p5 h0 n0 _ T11_14.heap _
    exact ⟨rfl, N11_14⟩
set_option maxRecDepth 65536 in
set_option maxHeartbeats 40000000 in
theorem comes_1 {Post : Tables → Env → Array Value → State → Outcome → State → Prop} (hpost : ∀ tb e args s v u, (limb_1_1.after args s (.returned v) u = true ∧ limb_1_2.after args s (.returned v) u = true ∧ True) → FrameEnd s (.returned v) u (Jvm.fieldLocs frame_1_writes args s ++ Jvm.arrayLocs frame_1_arrays args s ++ Jvm.staticLocs frame_1_statics s) 16 128 → Post tb e args s (.returned v) u) :
    ArmFor flags0 classFile x code maxLocals ret World_1 tables_1 room_1 Calls_1 rest_1 Pre_1 Post := by
  intro l hfl _ _ p e ha hc hk s m args below hf hA hF happ hP
  obtain ⟨hcalls, hrest, hpre⟩ := hP
  obtain ⟨-, -, -, hnamed, -, -, -, hat⟩ := (Spec.applies_iff hf).mp happ
  obtain ⟨hg, hn⟩ := and_e (Cond.before_iff.mp (show (Jvm.Cond.and given_1 narrow_1).before args s = true from hpre))
  obtain ⟨g16, g17⟩ := and_e hg
  obtain ⟨g18, g19⟩ := and_e g17
  obtain ⟨g20, g21⟩ := and_e g19
  obtain ⟨g22, g23⟩ := and_e g21
  obtain ⟨g24, g25⟩ := and_e g23
  obtain ⟨w0, w1, w2, w3, w4, rfl⟩ : ∃ w0 w1 w2 w3 w4 : Value, args = #[w0, w1, w2, w3, w4] := by
    have hs : args.size = 5 := by simpa [Cond.value, given_1] using g16
    obtain ⟨L⟩ := args
    match L, hs with
    | [w0, w1, w2, w3, w4], _ => exact ⟨w0, w1, w2, w3, w4, rfl⟩
  have hw := fun d (hd : d ∈ tables_1) => atoms_spec (ws := Jvm.Cond.code x code maxLocals ret :: tables_1) hat d (List.mem_cons_of_mem _ hd)
  have hfit : Fit s := fun {y c} hc i hi => by
    obtain ⟨ha, rfl⟩ := Array.getElem?_eq_some_iff.mp hc
    have q := List.all_eq_true.mp ((Array.all_eq_true_iff_forall_mem.mp hF) _ (Array.getElem_mem ha)) i (List.mem_range.mpr hi)
    simpa [Array.getElem?_eq_getElem hi] using q
  obtain ⟨i0, ei0⟩ := is_v g18
  obtain rfl : w0 = (.int i0) := Option.some.inj ei0
  obtain ⟨i1, ei1⟩ := is_v g20
  obtain rfl : w1 = (.int i1) := Option.some.inj ei1
  obtain ⟨i2, ei2⟩ := is_v g22
  obtain rfl : w2 = (.int i2) := Option.some.inj ei2
  obtain ⟨i3, ei3⟩ := is_v g24
  obtain rfl : w3 = (.int i3) := Option.some.inj ei3
  obtain ⟨i4, ei4⟩ := is_v g25
  obtain rfl : w4 = (.int i4) := Option.some.inj ei4
  obtain ⟨n, o, h1, h2, h3, _, L, rfl, ⟨rfl, N⟩, hq⟩ := rm0 l s _ hw tables_1 i0 i1 i2 i3 i4 s.heap s.heap.size (Nat.le_refl _) p e ha hc hk s m _ below hf ((Spec.applies_iff_loose hf).mp happ).1 ⟨rfl, State.Warmed39.refl s, rfl⟩ trivial
  refine ⟨n, _, h1, h2, h3, hpost _ _ _ _ _ _ ⟨Cond.after_iff.mpr rfl, Cond.after_iff.mpr (eq_i res_at (Term.int_eval (1)) rfl), trivial⟩ ⟨hq.1, hq.2.1, (hq.2.2.sift fun y hy => Or.inr (N y hy)).mono (by decide) (by decide)⟩⟩
theorem main_1_1 : Claimed_1_1 := comes_1 fun _ _ _ _ _ _ h hF => ⟨h.1, hF⟩
theorem main_1_2 : Claimed_1_2 := comes_1 fun _ _ _ _ _ _ h hF => ⟨h.2.1, hF⟩
end Jvm.Pilot.@@N@@
namespace Jvm.Pilot.@@N@@
open Jvm Jvm.ClassFile Sem Op Lib Jvm.Free Jvm.Stand Jvm.Pilot.@@N@@.Jvm.D
/-! MADE BY PROGRAM (witnessworld.py) out of the Statement's table words and the real class files: 15 classes; the members and pool entries that the words name. The judged class is class 1, her method 2. -/
namespace start1
open Jvm.ClassFile
def u (s : String) : CpInfo := .utf8 (stringToUtf16 s)
/-- a pool by its gaps: so many unusable entries, then the entry; so many at the end -/
def gap : Nat → List CpInfo → List CpInfo
  | 0, r => r
  | n + 1, r => .unusable :: gap n r
def poolList (es : List (Nat × CpInfo)) (last : Nat) : List CpInfo := es.foldr (fun e r => gap e.1 (e.2 :: r)) (gap last [])
def pool (es : List (Nat × CpInfo)) (last : Nat) : Array CpInfo := ⟨poolList es last⟩
def fileOf (pool : Array CpInfo) (this : Nat) (attrs : Array Attribute := #[]) (ms : Array MethodInfo := #[]) (fl : Nat := 33) (sup : Nat := 0) (ifs : Array Nat := #[]) (fds : Array FieldInfo := #[]) : ClassFile where
  minorVersion := 0
  majorVersion := 65
  constantPool := pool
  accessFlags := fl
  thisClass := this
  superClass := sup
  interfaces := ifs
  fields := fds
  methods := ms
  attributes := attrs
def plain (name : String) (sup : Option ClassId) : Class where
  name := name
  kind := .ordinary
  loader := none
  accessFlags := 33
  super := sup
  interfaces := #[]
  cf := none
  fields := #[]
  methods := #[]
  instanceTypes := #[]
  staticTypes := #[]
  resolved := #[]
  callSites := []
  init := .initialized
  statics := none
  mirror := none

def pool0 : Array CpInfo := pool [(5, u "<init>"), (0, u "()V"), (1, .class_ 10), (1, u "java/lang/Object")] 113

def k0c0 : Code := { maxStack := 0, maxLocals := 1, code := object_method_1_code, exceptionTable := #[], attributes := #[] }
def k0m0 : Method := { name := "<init>", desc := "()V", sig := { parameters := [], returnType := none }, accessFlags := 1, code := some k0c0 }
/-- java/lang/Object -/
def k0 : Class := { plain "java/lang/Object" none with
  accessFlags := 33
  interfaces := #[]
  cf := some (fileOf pool0 8 #[] #[{ accessFlags := 1, nameIndex := 5, descriptorIndex := 6, attributes := #[] }] 33 0 #[] #[])
  fields := #[]
  methods := #[k0m0]
  instanceTypes := #[]
  staticTypes := #[]
  resolved := Array.replicate 124 none
  statics := none }

def pool1 : Array CpInfo := pool [(2, .class_ 4), (1, u "java/lang/Object"), (0, u "<init>"), (0, u "()V"), (0, .class_ 8), (0, u "com/example/descender/descender/Position"), (0, .methodref 7 10), (0, .nameAndType 5 11), (0, u "(II)V"), (0, .methodref 7 13), (0, .nameAndType 14 15), (0, u "compareTo"), (0, u "(Lcom/example/descender/descender/Position;)I"), (0, .methodref 17 18), (0, .class_ 19), (0, .nameAndType 20 21), (0, u "com/example/descender/descender/PositionCompareToPinLaw"), (0, u "sgn"), (0, u "(I)I"), (3, u "law"), (0, u "(IIIII)Z")] 2

def k1m0 : Method := { name := "<init>", desc := "()V", sig := { parameters := [], returnType := none }, accessFlags := 1, code := none }
def k1c1 : Code := { maxStack := 1, maxLocals := 1, code := method_2_code, exceptionTable := #[], attributes := #[] }
def k1m1 : Method := { name := "sgn", desc := "(I)I", sig := { parameters := [.int], returnType := some .int }, accessFlags := 10, code := some k1c1 }
def k1c2 : Code := { maxStack := 4, maxLocals := 10, code := code, exceptionTable := #[], attributes := #[] }
def k1m2 : Method := { name := "law", desc := "(IIIII)Z", sig := { parameters := [.int, .int, .int, .int, .int], returnType := some .boolean }, accessFlags := 9, code := some k1c2 }
/-- com/example/descender/descender/PositionCompareToPinLaw -/
def k1 : Class := { plain "com/example/descender/descender/PositionCompareToPinLaw" (some 0) with
  accessFlags := 49
  interfaces := #[]
  cf := some (fileOf pool1 17 #[] #[{ accessFlags := 1, nameIndex := 5, descriptorIndex := 6, attributes := #[] }, { accessFlags := 10, nameIndex := 20, descriptorIndex := 21, attributes := #[] }, { accessFlags := 9, nameIndex := 25, descriptorIndex := 26, attributes := #[] }] 49 2 #[] #[])
  fields := #[]
  methods := #[k1m0, k1m1, k1m2]
  instanceTypes := #[]
  staticTypes := #[]
  resolved := Array.replicate 29 none
  statics := none }

def pool2 : Array CpInfo := pool [(1, .methodref 2 3), (0, .class_ 4), (0, .nameAndType 5 6), (0, u "java/lang/Object"), (0, u "<init>"), (0, u "()V"), (0, .class_ 8), (0, u "java/lang/Record")] 13

def k2c0 : Code := { maxStack := 1, maxLocals := 1, code := jdk_30_method_1_code, exceptionTable := #[], attributes := #[] }
def k2m0 : Method := { name := "<init>", desc := "()V", sig := { parameters := [], returnType := none }, accessFlags := 4, code := some k2c0 }
/-- java/lang/Record -/
def k2 : Class := { plain "java/lang/Record" (some 0) with
  accessFlags := 1057
  interfaces := #[]
  cf := some (fileOf pool2 7 #[] #[{ accessFlags := 4, nameIndex := 5, descriptorIndex := 6, attributes := #[] }] 1057 2 #[] #[])
  fields := #[]
  methods := #[k2m0]
  instanceTypes := #[]
  staticTypes := #[]
  resolved := Array.replicate 22 none
  statics := none }

def pool3 : Array CpInfo := pool [(1, .class_ 2), (0, u "java/lang/Comparable"), (0, .class_ 4), (0, u "java/lang/Object")] 7

/-- java/lang/Comparable -/
def k3 : Class := { plain "java/lang/Comparable" (some 0) with
  accessFlags := 1537
  interfaces := #[]
  cf := some (fileOf pool3 1 #[] #[] 1537 3 #[] #[])
  fields := #[]
  methods := #[]
  instanceTypes := #[]
  staticTypes := #[]
  resolved := Array.replicate 12 none
  statics := none }

def pool4 : Array CpInfo := pool [(1, .methodref 2 3), (0, .class_ 4), (0, .nameAndType 5 6), (0, u "java/lang/Record"), (0, u "<init>"), (0, u "()V"), (0, .fieldref 8 9), (0, .class_ 10), (0, .nameAndType 11 12), (0, u "com/example/descender/descender/Position"), (0, u "line"), (0, u "I"), (0, .fieldref 8 14), (0, .nameAndType 15 12), (0, u "column"), (0, .methodref 17 18), (0, .class_ 19), (0, .nameAndType 20 21), (0, u "java/lang/Integer"), (0, u "compare"), (0, u "(II)I"), (6, u "compareTo"), (0, u "(Lcom/example/descender/descender/Position;)I"), (7, .class_ 38), (0, u "java/lang/Comparable"), (0, u "(II)V")] 40

def k4c0 : Code := { maxStack := 2, maxLocals := 3, code := prog_50_method_1_code, exceptionTable := #[], attributes := #[] }
def k4m0 : Method := { name := "<init>", desc := "(II)V", sig := { parameters := [.int, .int], returnType := none }, accessFlags := 1, code := some k4c0 }
def k4c1 : Code := { maxStack := 2, maxLocals := 2, code := prog_50_method_2_code, exceptionTable := #[], attributes := #[] }
def k4m1 : Method := { name := "compareTo", desc := "(Lcom/example/descender/descender/Position;)I", sig := { parameters := [(.object "com/example/descender/descender/Position")], returnType := some .int }, accessFlags := 1, code := some k4c1 }
/-- com/example/descender/descender/Position -/
def k4 : Class := { plain "com/example/descender/descender/Position" (some 2) with
  accessFlags := 49
  interfaces := #[3]
  cf := some (fileOf pool4 8 #[] #[{ accessFlags := 1, nameIndex := 5, descriptorIndex := 39, attributes := #[] }, { accessFlags := 1, nameIndex := 28, descriptorIndex := 29, attributes := #[] }] 49 2 #[37] #[{ accessFlags := 18, nameIndex := 11, descriptorIndex := 12, attributes := #[] }, { accessFlags := 18, nameIndex := 15, descriptorIndex := 12, attributes := #[] }])
  fields := #[{ name := "line", type := .int, accessFlags := 18, slot := 0, constantValue := 0 }, { name := "column", type := .int, accessFlags := 18, slot := 1, constantValue := 0 }]
  methods := #[k4m0, k4m1]
  instanceTypes := #[.int, .int]
  staticTypes := #[]
  resolved := Array.replicate 80 none
  statics := none }

def pool5 : Array CpInfo := pool [(1, .class_ 2), (0, u "java/io/Serializable"), (0, .class_ 4), (0, u "java/lang/Object")] 2

/-- java/io/Serializable -/
def k5 : Class := { plain "java/io/Serializable" (some 0) with
  accessFlags := 1537
  interfaces := #[]
  cf := some (fileOf pool5 1 #[] #[] 1537 3 #[] #[])
  fields := #[]
  methods := #[]
  instanceTypes := #[]
  staticTypes := #[]
  resolved := Array.replicate 7 none
  statics := none }

def pool6 : Array CpInfo := pool [(2, .class_ 4), (1, u "java/lang/Object"), (0, u "<init>"), (0, u "()V"), (1, .class_ 10), (1, u "java/lang/Number"), (2, .class_ 14), (0, u "java/io/Serializable"), (0, u "serialVersionUID"), (0, u "J")] 20

def k6m0 : Method := { name := "<init>", desc := "()V", sig := { parameters := [], returnType := none }, accessFlags := 1, code := none }
/-- java/lang/Number -/
def k6 : Class := { plain "java/lang/Number" (some 0) with
  accessFlags := 1057
  interfaces := #[5]
  cf := some (fileOf pool6 8 #[] #[{ accessFlags := 1, nameIndex := 5, descriptorIndex := 6, attributes := #[] }] 1057 2 #[13] #[{ accessFlags := 26, nameIndex := 15, descriptorIndex := 16, attributes := #[] }])
  fields := #[{ name := "serialVersionUID", type := .long, accessFlags := 26, slot := 0, constantValue := 0 }]
  methods := #[k6m0]
  instanceTypes := #[]
  staticTypes := #[.long]
  resolved := Array.replicate 37 none
  statics := none }

def pool7 : Array CpInfo := pool [(1, .class_ 2), (0, u "java/lang/constant/Constable"), (0, .class_ 4), (0, u "java/lang/Object")] 6

/-- java/lang/constant/Constable -/
def k7 : Class := { plain "java/lang/constant/Constable" (some 0) with
  accessFlags := 1537
  interfaces := #[]
  cf := some (fileOf pool7 1 #[] #[] 1537 3 #[] #[])
  fields := #[]
  methods := #[]
  instanceTypes := #[]
  staticTypes := #[]
  resolved := Array.replicate 11 none
  statics := none }

def pool8 : Array CpInfo := pool [(1, .class_ 2), (0, u "java/lang/constant/ConstantDesc"), (0, .class_ 4), (0, u "java/lang/Object")] 32

/-- java/lang/constant/ConstantDesc -/
def k8 : Class := { plain "java/lang/constant/ConstantDesc" (some 0) with
  accessFlags := 1537
  interfaces := #[]
  cf := some (fileOf pool8 1 #[] #[] 1537 3 #[] #[])
  fields := #[]
  methods := #[]
  instanceTypes := #[]
  staticTypes := #[]
  resolved := Array.replicate 37 none
  statics := none }

def pool9 : Array CpInfo := pool [(1, .class_ 2), (0, u "java/lang/Integer"), (16, u "digits"), (0, u "[C"), (39, u "(II)I"), (24, u "DigitOnes"), (0, u "[B"), (2, u "DigitTens"), (99, .class_ 190), (0, u "java/lang/Integer$IntegerCache"), (3, u "I"), (8, .class_ 204), (0, u "java/lang/Number"), (2, u "value"), (53, u "compare"), (40, u "TYPE"), (0, u "Ljava/lang/Class;"), (0, .class_ 305), (0, u "java/lang/Comparable"), (0, .class_ 307), (0, u "java/lang/constant/Constable"), (0, .class_ 309), (0, u "java/lang/constant/ConstantDesc"), (0, u "MIN_VALUE"), (1, u "MAX_VALUE"), (3, u "SIZE"), (1, u "BYTES"), (1, u "serialVersionUID"), (0, u "J")] 131

def k9c0 : Code := { maxStack := 2, maxLocals := 2, code := jdk_33_method_40_code, exceptionTable := #[], attributes := #[] }
def k9m0 : Method := { name := "compare", desc := "(II)I", sig := { parameters := [.int, .int], returnType := some .int }, accessFlags := 9, code := some k9c0 }
/-- java/lang/Integer -/
def k9 : Class := { plain "java/lang/Integer" (some 6) with
  accessFlags := 49
  interfaces := #[3, 7, 8]
  cf := some (fileOf pool9 1 #[.nestMembers #[189]] #[{ accessFlags := 9, nameIndex := 261, descriptorIndex := 60, attributes := #[] }] 49 203 #[304, 306, 308] #[{ accessFlags := 25, nameIndex := 310, descriptorIndex := 194, attributes := #[] }, { accessFlags := 25, nameIndex := 312, descriptorIndex := 194, attributes := #[] }, { accessFlags := 25, nameIndex := 302, descriptorIndex := 303, attributes := #[] }, { accessFlags := 24, nameIndex := 19, descriptorIndex := 20, attributes := #[] }, { accessFlags := 24, nameIndex := 89, descriptorIndex := 86, attributes := #[] }, { accessFlags := 24, nameIndex := 85, descriptorIndex := 86, attributes := #[] }, { accessFlags := 18, nameIndex := 207, descriptorIndex := 194, attributes := #[] }, { accessFlags := 25, nameIndex := 316, descriptorIndex := 194, attributes := #[] }, { accessFlags := 25, nameIndex := 318, descriptorIndex := 194, attributes := #[] }, { accessFlags := 26, nameIndex := 320, descriptorIndex := 321, attributes := #[] }])
  fields := #[{ name := "MIN_VALUE", type := .int, accessFlags := 25, slot := 0, constantValue := 0 }, { name := "MAX_VALUE", type := .int, accessFlags := 25, slot := 1, constantValue := 0 }, { name := "TYPE", type := (.object "java/lang/Class"), accessFlags := 25, slot := 2, constantValue := 0 }, { name := "digits", type := (.array .char), accessFlags := 24, slot := 3, constantValue := 0 }, { name := "DigitTens", type := (.array .byte), accessFlags := 24, slot := 4, constantValue := 0 }, { name := "DigitOnes", type := (.array .byte), accessFlags := 24, slot := 5, constantValue := 0 }, { name := "value", type := .int, accessFlags := 18, slot := 0, constantValue := 0 }, { name := "SIZE", type := .int, accessFlags := 25, slot := 6, constantValue := 0 }, { name := "BYTES", type := .int, accessFlags := 25, slot := 7, constantValue := 0 }, { name := "serialVersionUID", type := .long, accessFlags := 26, slot := 8, constantValue := 0 }]
  methods := #[k9m0]
  instanceTypes := #[.int]
  staticTypes := #[.int, .int, (.object "java/lang/Class"), (.array .char), (.array .byte), (.array .byte), .int, .int, .long]
  resolved := Array.replicate 453 none
  statics := none }

def pool10 : Array CpInfo := pool [(1, u "java/lang/Cloneable"), (0, .class_ 1), (0, u "java/lang/Object"), (0, .class_ 3)] 3

/-- java/lang/Cloneable -/
def k10 : Class := { plain "java/lang/Cloneable" (some 0) with
  accessFlags := 1537
  interfaces := #[]
  cf := some (fileOf pool10 2 #[] #[] 1537 4 #[] #[])
  fields := #[]
  methods := #[]
  instanceTypes := #[]
  staticTypes := #[]
  resolved := Array.replicate 8 none
  statics := none }

/-- the primitive byte -/
def k11 : Class := { plain "byte" none with kind := .primitive 'B', accessFlags := 0x411 }
/-- [B -/
def k12 : Class := { plain "[B" (some 0) with kind := .array 11 .byte, interfaces := #[10, 5], accessFlags := 1041 }

/-- the primitive int -/
def k13 : Class := { plain "int" none with kind := .primitive 'I', accessFlags := 0x411 }
/-- [I -/
def k14 : Class := { plain "[I" (some 0) with kind := .array 13 .int, interfaces := #[10, 5], accessFlags := 1041 }

def heap : Heap := #[]
def classes : Array Class := #[k0, k1, k2, k3, k4, k5, k6, k7, k8, k9, k10, k11, k12, k13, k14]
def interned : List (Array UInt16 × Addr) := []
def slotsUsed : Nat := 0
def theMethod : MethodId := ⟨1, 2⟩
def args0 : Array Value := #[.int 1, .int 2, .int 3, .int 4, .int 5]
def aboutOver (below : List Frame) : State where
  vm := { classes := classes, interned := interned.toArray }
  heap := heap
  slotsUsed := slotsUsed
  threads := #[{ frames := .invoking theMethod args0 :: below }]
def below0 : List Frame := [.native { method := ⟨0, 0⟩, args := #[] }]
def about1 : State := aboutOver below0
def p0 : Program := .bare "" "" ""
def e0 : Env := launch0.env 0 0 0
theorem w_frames : about1.frames = Frame.invoking theMethod args0 :: below0 := rfl
set_option maxRecDepth 65536 in
theorem w_args : argsFit about1.vm theMethod args0 = true := by decide +kernel
set_option maxRecDepth 65536 in
theorem w_heap : heapFits about1 = true := by decide +kernel
set_option maxRecDepth 65536 in
theorem w_runnable : about1.curStatus? = some .runnable := by decide +kernel
set_option maxRecDepth 65536 in
theorem w_alone : about1.alone = true := by decide +kernel
set_option maxRecDepth 65536 in
theorem w_named : about1.methodNamed? x = some theMethod := by decide +kernel
set_option maxRecDepth 65536 in
theorem w_hears : about1.hears theMethod below0 = true := by decide +kernel
set_option maxRecDepth 65536 in
theorem w_ripe : about1.ripe theMethod args0 below0 = true := by decide +kernel
theorem w_running : about1.status = .running := rfl
set_option maxRecDepth 65536 in
theorem w_room : about1.hasRoom e0.platform room_1 = true :=
  launch0.hasRoom_least _ room_1 (by decide +kernel) (by decide +kernel) (by decide +kernel) (by decide +kernel) (by decide +kernel) (by decide +kernel)
theorem allAtoms_all (ts : List Jvm.Cond) (a : Array Jvm.Value) (st : Jvm.State) : (allAtoms ts).before a st = ts.all (fun c => c.before a st) := by
  induction ts with
  | nil => rfl
  | cons c t ih =>
    show (Jvm.Cond.and c (allAtoms t)).before a st = _
    rw [Jvm.Cond.before_and, ih, List.all_cons]
def words1 : List Jvm.Cond := Jvm.Cond.code x code maxLocals ret :: tables_1
/-- a 'code' word, met by the world's own term for the bytes: nothing is compared byte by byte -/
theorem code_word {y : MethodName} {bytes : ByteArray} {mx : Nat} {rt : Option FieldType} {a : Array Value} {s : State} {m : MethodId} {meth : Method} {c : Code} (h1 : s.methodNamed? y = some m) (h2 : s.vm.method? m = some meth) (h3 : meth.code = some c) (h4 : c.code = bytes)
    (h5 : (c.maxLocals == mx && c.exceptionTable.isEmpty && decide (c.maxStack ≤ mostOperands) && decide (meth.sig.returnType = rt) && !meth.locks && decide (parseMethodDescriptor y.desc = some meth.sig)) = true) : (Jvm.Cond.code y bytes mx rt).before a s = true := by
  simp only [Bool.and_eq_true, beq_iff_eq, Bool.not_eq_true', decide_eq_true_eq] at h5
  obtain ⟨⟨⟨⟨⟨g1, g2⟩, g3⟩, g4⟩, g5⟩, g6⟩ := h5
  simp [Cond.before, Cond.holds, Cond.value, h1, h2, h3, h4, g1, g2, g3, g4, g5, g6]
def isCode : Jvm.Cond → Bool
  | .code _ _ _ _ => true
  | _ => false
theorem all_split {L : List Jvm.Cond} {P : Jvm.Cond → Bool} (h1 : L.all (fun c => isCode c || P c) = true) (h2 : ∀ c ∈ L.filter isCode, P c = true) : L.all P = true := by
  refine List.all_eq_true.mpr fun c hc => ?_
  have h := List.all_eq_true.mp h1 c hc
  rcases Bool.eq_false_or_eq_true (isCode c) with hi | hi
  · exact h2 c (List.mem_filter.mpr ⟨hc, hi⟩)
  · simpa [hi] using h
set_option maxRecDepth 65536 in
theorem w_c0 : (Jvm.Cond.code x code maxLocals ret).before args0 about1 = true := code_word (m := ⟨1, 2⟩) (meth := k1m2) (c := k1c2) (by decide +kernel) rfl rfl rfl (by decide +kernel)
set_option maxRecDepth 65536 in
theorem w_c1 : (Jvm.Cond.code ({ cls := "com/example/descender/descender/Position", name := "<init>", desc := "(II)V" } : Jvm.MethodName) prog_50_method_1_code (3 : Nat) (Option.none : Option Jvm.ClassFile.FieldType)).before args0 about1 = true := code_word (m := ⟨4, 0⟩) (meth := k4m0) (c := k4c0) (by decide +kernel) rfl rfl rfl (by decide +kernel)
set_option maxRecDepth 65536 in
theorem w_c2 : (Jvm.Cond.code ({ cls := "java/lang/Record", name := "<init>", desc := "()V" } : Jvm.MethodName) jdk_30_method_1_code (1 : Nat) (Option.none : Option Jvm.ClassFile.FieldType)).before args0 about1 = true := code_word (m := ⟨2, 0⟩) (meth := k2m0) (c := k2c0) (by decide +kernel) rfl rfl rfl (by decide +kernel)
set_option maxRecDepth 65536 in
theorem w_c3 : (Jvm.Cond.code ({ cls := "java/lang/Object", name := "<init>", desc := "()V" } : Jvm.MethodName) object_method_1_code (1 : Nat) (Option.none : Option Jvm.ClassFile.FieldType)).before args0 about1 = true := code_word (m := ⟨0, 0⟩) (meth := k0m0) (c := k0c0) (by decide +kernel) rfl rfl rfl (by decide +kernel)
set_option maxRecDepth 65536 in
theorem w_c4 : (Jvm.Cond.code ({ cls := "com/example/descender/descender/Position", name := "compareTo", desc := "(Lcom/example/descender/descender/Position;)I" } : Jvm.MethodName) prog_50_method_2_code (2 : Nat) (Option.some Jvm.ClassFile.FieldType.int)).before args0 about1 = true := code_word (m := ⟨4, 1⟩) (meth := k4m1) (c := k4c1) (by decide +kernel) rfl rfl rfl (by decide +kernel)
set_option maxRecDepth 65536 in
theorem w_c5 : (Jvm.Cond.code ({ cls := "java/lang/Integer", name := "compare", desc := "(II)I" } : Jvm.MethodName) jdk_33_method_40_code (2 : Nat) (Option.some Jvm.ClassFile.FieldType.int)).before args0 about1 = true := code_word (m := ⟨9, 0⟩) (meth := k9m0) (c := k9c0) (by decide +kernel) rfl rfl rfl (by decide +kernel)
set_option maxRecDepth 65536 in
theorem w_c6 : (Jvm.Cond.code ({ cls := "com/example/descender/descender/PositionCompareToPinLaw", name := "sgn", desc := "(I)I" } : Jvm.MethodName) method_2_code (1 : Nat) (Option.some Jvm.ClassFile.FieldType.int)).before args0 about1 = true := code_word (m := ⟨1, 1⟩) (meth := k1m1) (c := k1c1) (by decide +kernel) rfl rfl rfl (by decide +kernel)
def codes1 : List Jvm.Cond := [Jvm.Cond.code x code maxLocals ret, Jvm.Cond.code ({ cls := "com/example/descender/descender/Position", name := "<init>", desc := "(II)V" } : Jvm.MethodName) prog_50_method_1_code (3 : Nat) (Option.none : Option Jvm.ClassFile.FieldType), Jvm.Cond.code ({ cls := "java/lang/Record", name := "<init>", desc := "()V" } : Jvm.MethodName) jdk_30_method_1_code (1 : Nat) (Option.none : Option Jvm.ClassFile.FieldType), Jvm.Cond.code ({ cls := "java/lang/Object", name := "<init>", desc := "()V" } : Jvm.MethodName) object_method_1_code (1 : Nat) (Option.none : Option Jvm.ClassFile.FieldType), Jvm.Cond.code ({ cls := "com/example/descender/descender/Position", name := "compareTo", desc := "(Lcom/example/descender/descender/Position;)I" } : Jvm.MethodName) prog_50_method_2_code (2 : Nat) (Option.some Jvm.ClassFile.FieldType.int), Jvm.Cond.code ({ cls := "java/lang/Integer", name := "compare", desc := "(II)I" } : Jvm.MethodName) jdk_33_method_40_code (2 : Nat) (Option.some Jvm.ClassFile.FieldType.int), Jvm.Cond.code ({ cls := "com/example/descender/descender/PositionCompareToPinLaw", name := "sgn", desc := "(I)I" } : Jvm.MethodName) method_2_code (1 : Nat) (Option.some Jvm.ClassFile.FieldType.int)]
set_option maxRecDepth 65536 in
theorem codes_eq : words1.filter isCode = codes1 := rfl
theorem w_codes : ∀ c ∈ words1.filter isCode, c.before args0 about1 = true := by
  rw [codes_eq]
  intro c hc
  simp only [codes1, List.mem_cons, List.not_mem_nil, or_false] at hc
  rcases hc with rfl | rfl | rfl | rfl | rfl | rfl | rfl
  · exact w_c0
  · exact w_c1
  · exact w_c2
  · exact w_c3
  · exact w_c4
  · exact w_c5
  · exact w_c6
set_option maxRecDepth 65536 in
theorem w_t1 : (words1.take 24).all (fun c => isCode c || c.before args0 about1) = true := by decide +kernel
set_option maxRecDepth 65536 in
theorem w_t2 : (words1.drop 24).all (fun c => isCode c || c.before args0 about1) = true := by decide +kernel
theorem w_tables : (allAtoms (Jvm.Cond.code x code maxLocals ret :: tables_1)).before args0 about1 = true := by
  rw [allAtoms_all]
  show words1.all (fun c => c.before args0 about1) = true
  refine all_split ?_ w_codes
  rw [← List.take_append_drop 24 words1, List.all_append, w_t1, w_t2]
  rfl
set_option maxRecDepth 65536 in
theorem w_case : (Jvm.Cond.and given_1 narrow_1).before args0 about1 = true := by decide +kernel
theorem w_applies : (headSpec (Jvm.Cond.code x code maxLocals ret :: tables_1) room_1).applies x e0.platform about1 = true :=
  (Spec.applies_iff w_frames).mpr ⟨w_running, w_runnable, w_alone, w_named, w_hears, w_ripe, w_room, w_tables⟩
theorem atStart : AtStart classFile x code maxLocals ret World_1 tables_1 room_1 Calls_1 rest_1 Pre_1 launch0 p0 e0 about1 theMethod args0 below0 :=
  ⟨lists_1, trivial, launch0.admits_env _ _ _, launch0.least_env, fairChoices_fair.cas, fairChoices_fair.clock, w_frames, w_args, w_heap, w_applies, trivial, trivial, w_case⟩
end start1
theorem witness_1 : WitnessClaimed_1 := ⟨start1.p0, start1.e0, start1.about1, start1.theMethod, start1.args0, start1.below0, start1.atStart⟩
end Jvm.Pilot.@@N@@
