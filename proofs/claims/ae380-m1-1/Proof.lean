import JvmDerived
import JvmDerived.Pilot.@@N@@Statement
import JvmDerived.Pilot.@@N@@Code
set_option linter.unusedVariables false
set_option linter.unusedSimpArgs false
@@BLOCK:NumsL.lean.txt@@
namespace Jvm.RoadKit
open Sem ClassFile Op Lib Jvm.Stand Jvm.Free Jvm.LawKit
section New
variable {p : Program} {l : Launch} {e : Env} {R : Room} {s : State} {m : MethodId} {args : Array Value} {below : List Frame} {meth : Method} {c : Code} {T : State} {locs : List Loc} {cells slots : Nat}
theorem retI (X : Stand p l e R s m args below meth c T locs cells slots) (hx : p.tables.exec = Jvm.exec) {pc : Nat} {Ls : Array Slot} {z : Int32} {rest : List Value} (hret : meth.sig.returnType = some .int) (hd : decode c.code pc = .ok (.ireturn, 1)) {fs : List Frame}
    (hl : ∀ (f : JFrame) (acts : List Action), f.method = m → f.locked = none → f.entered = [] → (doReturn e (T.setTop f) acts (some (.int z))).1 = T.setFrames fs) : Steps p.tables e below (T.setTop (mkF m pc Ls (.int z :: rest))) (T.setFrames fs) := by
  have hm' : T.vm.method? m = some meth := X.method'
  have hn : narrow .int (.int z) = .int z := rfl
  show Steps p.tables e below (T.setTop { method := m, pc := pc, locals := Ls, stack := _ :: rest, locked := none }) _
  jvm_step X.here [X.here.top, hx, hd, hm', hret, hn]
  first | (intro acts; rw [hl _ acts rfl rfl rfl]) | rw [hl _ _ rfl rfl rfl]
  exact Steps.refl _
theorem retD (X : Stand p l e R s m args below meth c T locs cells slots) (hx : p.tables.exec = Jvm.exec) {pc : Nat} {Ls : Array Slot} {z : UInt64} {rest : List Value} (hret : meth.sig.returnType = some .double) (hd : decode c.code pc = .ok (.dreturn, 1)) {fs : List Frame}
    (hl : ∀ (f : JFrame) (acts : List Action), f.method = m → f.locked = none → f.entered = [] → (doReturn e (T.setTop f) acts (some (.double z))).1 = T.setFrames fs) : Steps p.tables e below (T.setTop (mkF m pc Ls (.double z :: rest))) (T.setFrames fs) := by
  have hm' : T.vm.method? m = some meth := X.method'
  show Steps p.tables e below (T.setTop { method := m, pc := pc, locals := Ls, stack := _ :: rest, locked := none }) _
  jvm_step X.here [X.here.top, hx, hd, hm', hret]
  first | (intro acts; rw [hl _ acts rfl rfl rfl]) | rw [hl _ _ rfl rfl rfl]
  exact Steps.refl _
end New
end Jvm.RoadKit
namespace Jvm.Pilot.@@N@@
open Jvm Jvm.ClassFile Sem Op Lib Jvm.Free Jvm.Stand Jvm.LawKit Jvm.RoadKit Bundle Jvm.Pilot.@@N@@.Jvm.D
theorem jtlt {x y : Int64} (h : x < y) : ifCond.holds .lt (lcmpW x y) = true ∧ ifCond.holds .ge (lcmpW x y) = false ∧ ifCond.holds .gt (lcmpW y x) = true ∧ ifCond.holds .le (lcmpW y x) = false := by
  have h1 : ¬ y < x := by rw [Int64.lt_iff_toInt_lt] at h ⊢; omega
  have h2 : ¬ x = y := by rintro rfl; exact h1 h
  have h3 : ¬ y = x := fun q => h2 q.symm
  simp [ifCond.holds, lcmpW, h, h1, h2, h3]
theorem jflt {x y : Int64} (h : ¬ x < y) : ifCond.holds .lt (lcmpW x y) = false ∧ ifCond.holds .ge (lcmpW x y) = true ∧ ifCond.holds .gt (lcmpW y x) = false ∧ ifCond.holds .le (lcmpW y x) = true := by
  by_cases h2 : x = y
  · subst h2; simp [ifCond.holds, lcmpW, h]
  · have h1 : y < x := by rw [Int64.lt_iff_toInt_lt] at h ⊢; rw [← Int64.toInt_inj] at h2; omega
    have h3 : ¬ y = x := fun q => h2 q.symm
    simp [ifCond.holds, lcmpW, h, h1, h2, h3]
theorem jteq {x y : Int64} (h : x = y) : ifCond.holds .eq (lcmpW x y) = true ∧ ifCond.holds .ne (lcmpW x y) = false := by
  subst h
  have h1 : ¬ x < x := by rw [Int64.lt_iff_toInt_lt]; omega
  simp [ifCond.holds, lcmpW, h1]
theorem jfeq {x y : Int64} (h : ¬ x = y) : ifCond.holds .eq (lcmpW x y) = false ∧ ifCond.holds .ne (lcmpW x y) = true := by
  by_cases h1 : y < x <;> simp [ifCond.holds, lcmpW, h, h1]
theorem own_sta_keep {Z : State} {h h' : Heap} {C n d : String} {v : Value} {ws : List Addr} (F : Sta Z h C n d v) (K : Keep h h' ws) (q : ∀ x ∈ ws, ∃ c : Cell, h[x]? = some c ∧ c.vm.isStatics = false) : Sta Z h' C n d v := by
  obtain ⟨cf, i, k, f, st, cell, h1, h2, h3, h4, h5, h6, h7⟩ := F
  refine ⟨cf, i, k, f, st, cell, h1, h2, h3, h4, K.2.1 st cell h5 (fun hm => ?_), h6, h7⟩
  obtain ⟨c, e1, e2⟩ := q st hm
  rw [h5] at e1; cases e1; rw [h6] at e2; cases e2
theorem own_nostat {Z : State} {h : Heap} {a : Addr} {C : String} (E : Exa Z h a C) : ∃ c : Cell, h[a]? = some c ∧ c.vm.isStatics = false := by
  obtain ⟨cell, k, h1, -, -, h4, -⟩ := E
  exact ⟨cell, h1, h4⟩

theorem own_p (a : Int64) : 0 ≤ (a &&& (9223372036854775807 : Int64)).toInt := by
  have mk := Jvm.Kit.i64_mask a (9223372036854775807 : Int64) (k := 63) (by decide) (by decide)
  rw [mk]; omega
theorem own_span {p s : Int64} (h0 : 0 ≤ p.toInt) (hs : s = (9223372036854775807 : Int64) - p) : s.toInt = 9223372036854775807 - p.toInt := by
  have e1 : (9223372036854775807 : Int64).toInt = 9223372036854775807 := by decide
  have b := p.toInt_lt
  rw [hs, Jvm.Kit.i64_sub (by rw [e1]; omega) (by rw [e1]; omega), e1]
theorem own_snz {p s : Int64} (h0 : 0 ≤ p.toInt) (hn : ¬ (p = (9223372036854775807 : Int64))) (hs : s = (9223372036854775807 : Int64) - p) : ¬ (s = (0 : Int64)) := by
  intro q
  have e := own_span h0 hs
  have e1 : (9223372036854775807 : Int64).toInt = 9223372036854775807 := by decide
  have e0 : (0 : Int64).toInt = 0 := by decide
  rw [q, e0] at e
  exact hn (Int64.toInt_inj.mp (by rw [e1]; omega))
theorem own_t {p s t b : Int64} (h0 : 0 ≤ p.toInt) (hn : ¬ (p = (9223372036854775807 : Int64))) (hs : s = (9223372036854775807 : Int64) - p)
    (ht : t = p + (1 : Int64) ∨ t = (p + (1 : Int64)) + ((b &&& (9223372036854775807 : Int64)) - ((b &&& (9223372036854775807 : Int64)) / s) * s)) : p.toInt < t.toInt := by
  have e := own_span h0 hs
  have e1 : (9223372036854775807 : Int64).toInt = 9223372036854775807 := by decide
  have e0 : (1 : Int64).toInt = 1 := by decide
  have pb := p.toInt_lt
  have pn : p.toInt ≠ 9223372036854775807 := fun q => hn (Int64.toInt_inj.mp (by rw [e1]; exact q))
  have ea : (p + (1 : Int64)).toInt = p.toInt + 1 := by rw [Jvm.Kit.i64_add (by rw [e0]; omega) (by rw [e0]; omega), e0]
  have er := Jvm.Kit.i64_rem_nonneg (x := b &&& (9223372036854775807 : Int64)) (y := s) (own_p b)
  have r0 : 0 ≤ (b &&& (9223372036854775807 : Int64)).toInt % s.toInt := Int.emod_nonneg _ (by omega)
  have r1 : (b &&& (9223372036854775807 : Int64)).toInt % s.toInt < s.toInt := Int.emod_lt_of_pos _ (by omega)
  rcases ht with rfl | rfl
  · rw [ea]; omega
  · rw [Jvm.Kit.i64_add (by rw [ea, er]; omega) (by rw [ea, er]; omega), ea, er]; omega

/-! body 2 -/
theorem d2_0 : decode jdk_30_method_1_code 0 = .ok (.aload_n 0, 1) := by decide +kernel
theorem d2_1 : decode jdk_30_method_1_code 1 = .ok (.invokespecial 1, 3) := by decide +kernel
theorem d2_4 : decode jdk_30_method_1_code 4 = .ok (.return_, 1) := by decide +kernel
theorem pn_2 : plainName "java/lang/Record" = true := by first | (simp [plainName, overriddenIn]; done) | decide +kernel
theorem ef_2 (m : MethodId) (a1 : Addr) : entryFrame m #[(.ref a1)] 1 = mkF m 0 #[.val (.ref a1)] [] := by first | (simp [entryFrame, mkF, argsToLocals, Value.category]; done) | rfl
def Q2 (Z : State) (a1 : Addr) (h0 : Heap) (n0 : Nat) (v : Option Value) (h : Heap) (L : List Loc) : Prop := v = none ∧ Fr n0 L ∧ h = h0 ∧ (True)
set_option maxRecDepth 65536 in
set_option maxHeartbeats 40000000 in
theorem rm2 (l : Launch) (Z : State) (a0 : Array Value) (hw : ∀ d ∈ tables_1, d.before a0 Z = true) (ws : List Jvm.Cond) (a1 : Addr) (h0 : Heap) (n0 : Nat) (Z0 : n0 ≤ h0.size)  :
    MetFree l (⟨"java/lang/Record", "<init>", "()V"⟩ : MethodName) (head1 (Jvm.Cond.code (⟨"java/lang/Record", "<init>", "()V"⟩ : MethodName) jdk_30_method_1_code 1 none :: ws) ({ frames := 1, cells := 0, slots := 0, locals := 12 } : Room)) (fun a U => a = #[(.ref a1)] ∧ Z.Warmed39 U.vm ∧ U.heap = h0) (fun _ _ _ _ _ => True) (fun _ U o U' => ∃ v L, o = .returned v ∧ Q2 Z a1 h0 n0 v U'.heap L ∧ FrameEnd U o U' L ({ frames := 1, cells := 0, slots := 0, locals := 12 } : Room).cells ({ frames := 1, cells := 0, slots := 0, locals := 12 } : Room).slots) := by
  refine MetFree.of_bodySF (plainFor_of_name pn_2) hisR ?_
  intro p e s m args below meth c s₁ Bd hml0 hP hK
  obtain ⟨rfl, hZ, hh⟩ := hP
  have hx := Bd.exec
  have hby := Bd.bytes
  have hml : c.maxLocals = 1 := hml0
  have hown : s.vm.findClass "java/lang/Record" = some m.cls := findClass_of_methodNamed Bd.named
  have hnm := (name_of_methodNamed Bd.named Bd.method).1
  have X0 : Stand p l e ({ frames := 1, cells := 0, slots := 0, locals := 12 } : Room) s m #[(.ref a1)] below meth c s₁ [] 0 0 := Stand.of_body Bd
  have e0 : s₁.heap = h0 := by rw [← hh, Bd.state]; rfl
  have N0 := Fr.nil n0
  have pre0 : ∀ t, Steps p.tables e below (s₁.setTop (mkF m 0 #[.val (.ref a1)] [])) t → Steps p.tables e below (s₁.setTop (entryFrame m #[(.ref a1)] 1)) t := fun t k => castTop (ef_2 m a1) k
  have pre1 : ∀ t, Steps p.tables e below (s₁.setTop (mkF m 1 #[.val (.ref a1)] [(.ref a1)])) t → Steps p.tables e below (s₁.setTop (entryFrame m #[(.ref a1)] 1)) t := by
    refine fun t k => pre0 t ?_
    show Steps p.tables e below (s₁.setTop (mkF m 0 #[.val (.ref a1)] [])) _
    refine XS.aloadN X0.here hx rfl (hb hby d2_0) rfl rfl ?_
    exact k
  obtain ⟨T2, X2, e2, st2⟩ := initO X0 hx hZ hown (hw _ (List.mem_of_getElem? (i := 12) rfl)) (hw _ (List.mem_of_getElem? (i := 13) rfl)) (hw _ (List.mem_of_getElem? (i := 14) rfl)) e0 (g := (mkF m 1 #[.val (.ref a1)] [(.ref a1)])) rfl (by rw [hml]; rfl) rfl (hb hby d2_1) (by decide) (W := 0) (by show 2 * 0 + _ ≤ _; exact Nat.le_of_eq rfl) (by decide)
  have pre3 : ∀ t, Steps p.tables e below (T2.setTop (mkF m 4 #[.val (.ref a1)] [])) t → Steps p.tables e below (s₁.setTop (entryFrame m #[(.ref a1)] 1)) t := fun t k => pre1 t (st2 _ k)
  obtain ⟨fs, hr, hrun, hended, hW, hsame⟩ := X2.leave (v := none) (fun _ => rfl)
  refine ⟨_, _, pre3 _ ?_, hrun, hended, _, _, rfl, ?_, ⟨_, rfl⟩, hW, hsame.mono (by decide) (by decide)⟩
  · skip
    show Steps p.tables e below (T2.setTop (mkF m 4 #[.val (.ref a1)] [])) _
    exact X2.returnOut hx Bd.returns (hb hby d2_4) hr
  · show Q2 Z a1 h0 n0 _ T2.heap _
    rw [e2]
    exact ⟨rfl, N0, rfl, trivial⟩
/-! body 1 -/
theorem d1_0 : decode prog_81_method_1_code 0 = .ok (.aload_n 0, 1) := by decide +kernel
theorem d1_1 : decode prog_81_method_1_code 1 = .ok (.invokespecial 1, 3) := by decide +kernel
theorem d1_4 : decode prog_81_method_1_code 4 = .ok (.lload_n 1, 1) := by decide +kernel
theorem d1_5 : decode prog_81_method_1_code 5 = .ok (.lconst 0, 1) := by decide +kernel
theorem d1_6 : decode prog_81_method_1_code 6 = .ok (.lcmp, 1) := by decide +kernel
theorem d1_7 : decode prog_81_method_1_code 7 = .ok (.ifCond .ge 17, 3) := by decide +kernel
theorem d1_24 : decode prog_81_method_1_code 24 = .ok (.iload_n 3, 1) := by decide +kernel
theorem d1_25 : decode prog_81_method_1_code 25 = .ok (.iconst 1, 1) := by decide +kernel
theorem d1_26 : decode prog_81_method_1_code 26 = .ok (.if_icmp .eq 22, 3) := by decide +kernel
theorem d1_29 : decode prog_81_method_1_code 29 = .ok (.iload_n 3, 1) := by decide +kernel
theorem d1_30 : decode prog_81_method_1_code 30 = .ok (.iconst (-1), 1) := by decide +kernel
theorem d1_31 : decode prog_81_method_1_code 31 = .ok (.if_icmp .eq 17, 3) := by decide +kernel
theorem d1_48 : decode prog_81_method_1_code 48 = .ok (.aload_n 0, 1) := by decide +kernel
theorem d1_49 : decode prog_81_method_1_code 49 = .ok (.lload_n 1, 1) := by decide +kernel
theorem d1_50 : decode prog_81_method_1_code 50 = .ok (.putfield 19, 3) := by decide +kernel
theorem d1_53 : decode prog_81_method_1_code 53 = .ok (.aload_n 0, 1) := by decide +kernel
theorem d1_54 : decode prog_81_method_1_code 54 = .ok (.iload_n 3, 1) := by decide +kernel
theorem d1_55 : decode prog_81_method_1_code 55 = .ok (.putfield 25, 3) := by decide +kernel
theorem d1_58 : decode prog_81_method_1_code 58 = .ok (.return_, 1) := by decide +kernel
theorem pn_1 : plainName "com/example/crisp_haptics/crisphaptics/RotaryInput$Detent" = true := by first | (simp [plainName, overriddenIn]; done) | decide +kernel
theorem pd1_0 : parseMethodDescriptor "()V" = some ⟨[], none⟩ := by decide +kernel
theorem ef_1 (m : MethodId) (a1 : Addr) (q2 : Int64) (p3 : Int32) : entryFrame m #[(.ref a1), (.long q2), (.int p3)] 4 = mkF m 0 #[.val (.ref a1), .val (.long q2), .second, .val (.int p3)] [] := by first | (simp [entryFrame, mkF, argsToLocals, Value.category]; done) | rfl
def Q1 (Z : State) (a1 : Addr) (q2 : Int64) (p3 : Int32) (h0 : Heap) (n0 : Nat) (v : Option Value) (h : Heap) (L : List Loc) : Prop := v = none ∧ Fr n0 L ∧ Keep h0 h [a1] ∧ Fld Z h a1 "com/example/crisp_haptics/crisphaptics/RotaryInput$Detent" "timeNs" "J" (.long q2) ∧ Fld Z h a1 "com/example/crisp_haptics/crisphaptics/RotaryInput$Detent" "direction" "I" (.int p3) ∧ (True)
set_option maxRecDepth 65536 in
set_option maxHeartbeats 40000000 in
theorem rm1 (l : Launch) (Z : State) (a0 : Array Value) (hw : ∀ d ∈ tables_1, d.before a0 Z = true) (ws : List Jvm.Cond) (a1 : Addr) (q2 : Int64) (p3 : Int32) (h0 : Heap) (n0 : Nat) (Z0 : n0 ≤ h0.size) (E_a1 : Exa Z h0 a1 "com/example/crisp_haptics/crisphaptics/RotaryInput$Detent") (F_timeNs_a1 : Fld Z h0 a1 "com/example/crisp_haptics/crisphaptics/RotaryInput$Detent" "timeNs" "J" (.long (0 : Int64))) (F_direction_a1 : Fld Z h0 a1 "com/example/crisp_haptics/crisphaptics/RotaryInput$Detent" "direction" "I" (.int (0 : Int32))) (g_a1 : n0 ≤ a1) (h1 : ¬ (q2 < (0 : Int64))) (h2 : p3 = (1 : Int32) ∨ p3 = (-1 : Int32)) :
    MetFree l (⟨"com/example/crisp_haptics/crisphaptics/RotaryInput$Detent", "<init>", "(JI)V"⟩ : MethodName) (head1 (Jvm.Cond.code (⟨"com/example/crisp_haptics/crisphaptics/RotaryInput$Detent", "<init>", "(JI)V"⟩ : MethodName) prog_81_method_1_code 4 none :: ws) ({ frames := 2, cells := 0, slots := 0, locals := 24 } : Room)) (fun a U => a = #[(.ref a1), (.long q2), (.int p3)] ∧ Z.Warmed39 U.vm ∧ U.heap = h0) (fun _ _ _ _ _ => True) (fun _ U o U' => ∃ v L, o = .returned v ∧ Q1 Z a1 q2 p3 h0 n0 v U'.heap L ∧ FrameEnd U o U' L ({ frames := 2, cells := 0, slots := 0, locals := 24 } : Room).cells ({ frames := 2, cells := 0, slots := 0, locals := 24 } : Room).slots) := by
  refine MetFree.of_bodySF (plainFor_of_name pn_1) hisR ?_
  intro p e s m args below meth c s₁ Bd hml0 hP hK
  obtain ⟨rfl, hZ, hh⟩ := hP
  have hx := Bd.exec
  have hby := Bd.bytes
  have hml : c.maxLocals = 4 := hml0
  have hown : s.vm.findClass "com/example/crisp_haptics/crisphaptics/RotaryInput$Detent" = some m.cls := findClass_of_methodNamed Bd.named
  have hnm := (name_of_methodNamed Bd.named Bd.method).1
  have X0 : Stand p l e ({ frames := 2, cells := 0, slots := 0, locals := 24 } : Room) s m #[(.ref a1), (.long q2), (.int p3)] below meth c s₁ [] 0 0 := Stand.of_body Bd
  have e0 : s₁.heap = h0 := by rw [← hh, Bd.state]; rfl
  have N0 := Fr.nil n0
  have pre0 : ∀ t, Steps p.tables e below (s₁.setTop (mkF m 0 #[.val (.ref a1), .val (.long q2), .second, .val (.int p3)] [])) t → Steps p.tables e below (s₁.setTop (entryFrame m #[(.ref a1), (.long q2), (.int p3)] 4)) t := fun t k => castTop (ef_1 m a1 q2 p3) k
  have pre1 : ∀ t, Steps p.tables e below (s₁.setTop (mkF m 1 #[.val (.ref a1), .val (.long q2), .second, .val (.int p3)] [(.ref a1)])) t → Steps p.tables e below (s₁.setTop (entryFrame m #[(.ref a1), (.long q2), (.int p3)] 4)) t := by
    refine fun t k => pre0 t ?_
    show Steps p.tables e below (s₁.setTop (mkF m 0 #[.val (.ref a1), .val (.long q2), .second, .val (.int p3)] [])) _
    refine XS.aloadN X0.here hx rfl (hb hby d1_0) rfl rfl ?_
    exact k
  have Z2 : n0 ≤ h0.size := Z0
  obtain ⟨_, _, ⟨T2, L2, k2, n2⟩, -, X2, ⟨Lc2, hQ2, l2, y2, z2⟩, st2⟩ := X0.specialBack hx (y := (⟨"java/lang/Record", "<init>", "()V"⟩ : MethodName)) rfl hown (mvT hZ (hw _ (List.mem_of_getElem? (i := 7) rfl))) (mvT hZ (hw _ (List.mem_of_getElem? (i := 8) rfl))) (mvT hZ (hw _ (List.mem_of_getElem? (i := 11) rfl))) (by decide) (backOf (W := 0) (rm2 l Z a0 hw [] a1  h0 n0 Z2 ) hZ (hw _ (List.mem_of_getElem? (i := 11) rfl)) (hw _ (List.mem_of_getElem? (i := 10) rfl)) (by decide) (by decide)) (g := (mkF m 1 #[.val (.ref a1), .val (.long q2), .second, .val (.int p3)] [(.ref a1)])) rfl (by rw [hml]; rfl) (Steps.refl _) (a := a1) (argsL := []) (rest := []) (lenOf pd1_0 rfl) rfl (by show 2 * 0 + _ ≤ _; exact Nat.le_of_eq rfl) (hb hby d1_1) (fun _ _ => ⟨rfl, e0, (by decide : 0 + 0 ≤ _), (by decide : 0 + 0 ≤ _)⟩)
  dsimp only [Pt.U, Pt.locs, Pt.cells, Pt.slots] at X2 l2 y2 z2 st2 hQ2
  subst l2 y2 z2
  obtain ⟨rfl, Nq2, ehq2, hq2⟩ := hQ2
  have N2 := Fr.app N0 Nq2
  have pre3 : ∀ t, Steps p.tables e below (T2.setTop (mkF m 4 #[.val (.ref a1), .val (.long q2), .second, .val (.int p3)] [])) t → Steps p.tables e below (s₁.setTop (entryFrame m #[(.ref a1), (.long q2), (.int p3)] 4)) t := fun t k => pre1 t (st2.trans k)
  have hc7 : ¬ (q2 < (0 : Int64)) := by exact h1
  have pre4 : ∀ t, Steps p.tables e below (T2.setTop (mkF m 24 #[.val (.ref a1), .val (.long q2), .second, .val (.int p3)] [])) t → Steps p.tables e below (s₁.setTop (entryFrame m #[(.ref a1), (.long q2), (.int p3)] 4)) t := by
    refine fun t k => pre3 t ?_
    show Steps p.tables e below (T2.setTop (mkF m 4 #[.val (.ref a1), .val (.long q2), .second, .val (.int p3)] [])) _
    refine XS.lloadN X2.here hx rfl (hb hby d1_4) rfl ?_
    show Steps p.tables e below (T2.setTop (mkF m 5 #[.val (.ref a1), .val (.long q2), .second, .val (.int p3)] [(.long q2)])) _
    refine XS.lconst X2.here hx rfl (hb hby d1_5) ?_
    show Steps p.tables e below (T2.setTop (mkF m 6 #[.val (.ref a1), .val (.long q2), .second, .val (.int p3)] [(.long (0 : Int64)), (.long q2)])) _
    refine XS.lcmp X2.here hx rfl (hb hby d1_6) rfl ?_
    show Steps p.tables e below (T2.setTop (mkF m 7 #[.val (.ref a1), .val (.long q2), .second, .val (.int p3)] [(.int (lcmpW q2 (0 : Int64)))])) _
    refine XS.ifYes X2.here hx rfl (pc0 := 7) (pc' := 24) rfl (hb hby d1_7) rfl (jflt hc7).2.1 (by decide) (by decide) ?_
    exact k
  obtain ⟨hj5, pre5⟩ : ((p3 = (1 : Int32)) ∨ (¬ (p3 = (1 : Int32)))) ∧ (∀ t, Steps p.tables e below (T2.setTop (mkF m 48 #[.val (.ref a1), .val (.long q2), .second, .val (.int p3)] [])) t → Steps p.tables e below (s₁.setTop (entryFrame m #[(.ref a1), (.long q2), (.int p3)] 4)) t) := by
    by_cases hb0_26 : p3 = (1 : Int32)
    · skip
      refine ⟨Or.inl (hb0_26), fun t k => pre4 t ?_⟩
      show Steps p.tables e below (T2.setTop (mkF m 24 #[.val (.ref a1), .val (.long q2), .second, .val (.int p3)] [])) _
      refine XS.iloadN X2.here hx rfl (hb hby d1_24) rfl ?_
      show Steps p.tables e below (T2.setTop (mkF m 25 #[.val (.ref a1), .val (.long q2), .second, .val (.int p3)] [(.int p3)])) _
      refine XS.iconst X2.here hx rfl (hb hby d1_25) ?_
      show Steps p.tables e below (T2.setTop (mkF m 26 #[.val (.ref a1), .val (.long q2), .second, .val (.int p3)] [(.int (1 : Int32)), (.int p3)])) _
      refine XS.icmpYes X2.here hx rfl (pc0 := 26) (pc' := 48) rfl (hb hby d1_26) rfl (teq hb0_26).1 (by decide) (by decide) ?_
      exact k
    · skip
      refine ⟨Or.inr (hb0_26), fun t k => pre4 t ?_⟩
      show Steps p.tables e below (T2.setTop (mkF m 24 #[.val (.ref a1), .val (.long q2), .second, .val (.int p3)] [])) _
      refine XS.iloadN X2.here hx rfl (hb hby d1_24) rfl ?_
      show Steps p.tables e below (T2.setTop (mkF m 25 #[.val (.ref a1), .val (.long q2), .second, .val (.int p3)] [(.int p3)])) _
      refine XS.iconst X2.here hx rfl (hb hby d1_25) ?_
      show Steps p.tables e below (T2.setTop (mkF m 26 #[.val (.ref a1), .val (.long q2), .second, .val (.int p3)] [(.int (1 : Int32)), (.int p3)])) _
      refine XS.icmpNo X2.here hx rfl (hb hby d1_26) rfl (feq hb0_26).1 ?_
      show Steps p.tables e below (T2.setTop (mkF m 29 #[.val (.ref a1), .val (.long q2), .second, .val (.int p3)] [])) _
      refine XS.iloadN X2.here hx rfl (hb hby d1_29) rfl ?_
      show Steps p.tables e below (T2.setTop (mkF m 30 #[.val (.ref a1), .val (.long q2), .second, .val (.int p3)] [(.int p3)])) _
      refine XS.iconst X2.here hx rfl (hb hby d1_30) ?_
      show Steps p.tables e below (T2.setTop (mkF m 31 #[.val (.ref a1), .val (.long q2), .second, .val (.int p3)] [(.int (-1 : Int32)), (.int p3)])) _
      have hb1_31 : p3 = (-1 : Int32) := by exact h2.resolve_left (by assumption)
      refine XS.icmpYes X2.here hx rfl (pc0 := 31) (pc' := 48) rfl (hb hby d1_31) rfl (teq hb1_31).1 (by decide) (by decide) ?_
      exact k
  have pre6 : ∀ t, Steps p.tables e below (T2.setTop (mkF m 50 #[.val (.ref a1), .val (.long q2), .second, .val (.int p3)] [(.long q2), (.ref a1)])) t → Steps p.tables e below (s₁.setTop (entryFrame m #[(.ref a1), (.long q2), (.int p3)] 4)) t := by
    refine fun t k => pre5 t ?_
    show Steps p.tables e below (T2.setTop (mkF m 48 #[.val (.ref a1), .val (.long q2), .second, .val (.int p3)] [])) _
    refine XS.aloadN X2.here hx rfl (hb hby d1_48) rfl rfl ?_
    show Steps p.tables e below (T2.setTop (mkF m 49 #[.val (.ref a1), .val (.long q2), .second, .val (.int p3)] [(.ref a1)])) _
    refine XS.lloadN X2.here hx rfl (hb hby d1_49) rfl ?_
    exact k
  obtain ⟨T7, h7, X7, e7, W7, st7⟩ := putF X2 hx hZ hown (host := "") (Or.inl (hw _ (List.mem_of_getElem? (i := 15) rfl))) Via.refl ehq2 F_timeNs_a1 E_a1 (Or.inr ⟨(hw _ (List.mem_of_getElem? (i := 16) rfl)), rfl, hnm⟩) (hw _ (List.mem_of_getElem? (i := 2) rfl)) (ty := .long) (by decide) rfl rfl (g := (mkF m 50 #[.val (.ref a1), .val (.long q2), .second, .val (.int p3)] [(.long q2), (.ref a1)])) rfl rfl (hb hby d1_50)
  have pre8 : ∀ t, Steps p.tables e below (T7.setTop (mkF m 53 #[.val (.ref a1), .val (.long q2), .second, .val (.int p3)] [])) t → Steps p.tables e below (s₁.setTop (entryFrame m #[(.ref a1), (.long q2), (.int p3)] 4)) t := fun t k => pre6 t (st7 _ k)
  have N7 := Fr.snoc X7 N2 g_a1
  have K7 : Keep h0 h7 [a1] := Keep.wr (Keep.refl h0 [a1]) W7 (Or.inl (List.mem_of_getElem? (i := 0) rfl))
  have f9 := E_a1.wr W7
  have f10 := F_direction_a1.other W7 (Or.inr (slot_ne (Or.inr (hw _ (List.mem_of_getElem? (i := 18) rfl))) (Or.inr (hw _ (List.mem_of_getElem? (i := 16) rfl))) (by decide) (t := .int) (t' := .long) (by decide) (by decide)))
  have f11 := F_timeNs_a1.same W7
  have pre12 : ∀ t, Steps p.tables e below (T7.setTop (mkF m 55 #[.val (.ref a1), .val (.long q2), .second, .val (.int p3)] [(.int p3), (.ref a1)])) t → Steps p.tables e below (s₁.setTop (entryFrame m #[(.ref a1), (.long q2), (.int p3)] 4)) t := by
    refine fun t k => pre8 t ?_
    show Steps p.tables e below (T7.setTop (mkF m 53 #[.val (.ref a1), .val (.long q2), .second, .val (.int p3)] [])) _
    refine XS.aloadN X7.here hx rfl (hb hby d1_53) rfl rfl ?_
    show Steps p.tables e below (T7.setTop (mkF m 54 #[.val (.ref a1), .val (.long q2), .second, .val (.int p3)] [(.ref a1)])) _
    refine XS.iloadN X7.here hx rfl (hb hby d1_54) rfl ?_
    exact k
  obtain ⟨T13, h13, X13, e13, W13, st13⟩ := putF X7 hx hZ hown (host := "") (Or.inl (hw _ (List.mem_of_getElem? (i := 17) rfl))) Via.refl e7 f10 f9 (Or.inr ⟨(hw _ (List.mem_of_getElem? (i := 18) rfl)), rfl, hnm⟩) (hw _ (List.mem_of_getElem? (i := 2) rfl)) (ty := .int) (by decide) rfl rfl (g := (mkF m 55 #[.val (.ref a1), .val (.long q2), .second, .val (.int p3)] [(.int p3), (.ref a1)])) rfl rfl (hb hby d1_55)
  have pre14 : ∀ t, Steps p.tables e below (T13.setTop (mkF m 58 #[.val (.ref a1), .val (.long q2), .second, .val (.int p3)] [])) t → Steps p.tables e below (s₁.setTop (entryFrame m #[(.ref a1), (.long q2), (.int p3)] 4)) t := fun t k => pre12 t (st13 _ k)
  have N13 := Fr.snoc X13 N7 g_a1
  have K13 : Keep h0 h13 [a1] := Keep.wr K7 W13 (Or.inl (List.mem_of_getElem? (i := 0) rfl))
  have f15 := f9.wr W13
  have f16 := f11.other W13 (Or.inr (slot_ne (Or.inr (hw _ (List.mem_of_getElem? (i := 16) rfl))) (Or.inr (hw _ (List.mem_of_getElem? (i := 18) rfl))) (by decide) (t := .long) (t' := .int) (by decide) (by decide)))
  have f17 := f10.same W13
  obtain ⟨fs, hr, hrun, hended, hW, hsame⟩ := X13.leave (v := none) (fun _ => rfl)
  refine ⟨_, _, pre14 _ ?_, hrun, hended, _, _, rfl, ?_, ⟨_, rfl⟩, hW, hsame.mono (by decide) (by decide)⟩
  · skip
    show Steps p.tables e below (T13.setTop (mkF m 58 #[.val (.ref a1), .val (.long q2), .second, .val (.int p3)] [])) _
    exact X13.returnOut hx Bd.returns (hb hby d1_58) hr
  · show Q1 Z a1 q2 p3 h0 n0 _ T13.heap _
    rw [e13]
    refine ⟨rfl, N13, K13, f16, f17, ?_⟩
    trivial
/-! body 4 -/
theorem d4_0 : decode prog_81_method_2_code 0 = .ok (.aload_n 0, 1) := by decide +kernel
theorem d4_1 : decode prog_81_method_2_code 1 = .ok (.getfield 19, 3) := by decide +kernel
theorem d4_4 : decode prog_81_method_2_code 4 = .ok (.aload_n 1, 1) := by decide +kernel
theorem d4_5 : decode prog_81_method_2_code 5 = .ok (.getfield 19, 3) := by decide +kernel
theorem d4_8 : decode prog_81_method_2_code 8 = .ok (.lcmp, 1) := by decide +kernel
theorem d4_9 : decode prog_81_method_2_code 9 = .ok (.ifCond .gt 24, 3) := by decide +kernel
theorem d4_33 : decode prog_81_method_2_code 33 = .ok (.return_, 1) := by decide +kernel
theorem pn_4 : plainName "com/example/crisp_haptics/crisphaptics/RotaryInput$Detent" = true := by first | (simp [plainName, overriddenIn]; done) | decide +kernel
theorem ef_4 (m : MethodId) (a1 : Addr) (a2 : Addr) : entryFrame m #[(.ref a1), (.ref a2)] 2 = mkF m 0 #[.val (.ref a1), .val (.ref a2)] [] := by first | (simp [entryFrame, mkF, argsToLocals, Value.category]; done) | rfl
def Q4 (Z : State) (a1 : Addr) (a2 : Addr) (w1 : Int64) (w2 : Int64) (h0 : Heap) (n0 : Nat) (v : Option Value) (h : Heap) (L : List Loc) : Prop := v = none ∧ Fr n0 L ∧ h = h0 ∧ (True)
set_option maxRecDepth 65536 in
set_option maxHeartbeats 40000000 in
theorem rm4 (l : Launch) (Z : State) (a0 : Array Value) (hw : ∀ d ∈ tables_1, d.before a0 Z = true) (ws : List Jvm.Cond) (a1 : Addr) (a2 : Addr) (w1 : Int64) (w2 : Int64) (h0 : Heap) (n0 : Nat) (Z0 : n0 ≤ h0.size) (F_timeNs_a1 : Fld Z h0 a1 "com/example/crisp_haptics/crisphaptics/RotaryInput$Detent" "timeNs" "J" (.long w1)) (F_timeNs_a2 : Fld Z h0 a2 "com/example/crisp_haptics/crisphaptics/RotaryInput$Detent" "timeNs" "J" (.long w2)) (hlt : w2 < w1) :
    MetFree l (⟨"com/example/crisp_haptics/crisphaptics/RotaryInput$Detent", "checkAfter", "(Lcom/example/crisp_haptics/crisphaptics/RotaryInput$Detent;)V"⟩ : MethodName) (head1 (Jvm.Cond.code (⟨"com/example/crisp_haptics/crisphaptics/RotaryInput$Detent", "checkAfter", "(Lcom/example/crisp_haptics/crisphaptics/RotaryInput$Detent;)V"⟩ : MethodName) prog_81_method_2_code 2 none :: ws) ({ frames := 0, cells := 0, slots := 0, locals := 0 } : Room)) (fun a U => a = #[(.ref a1), (.ref a2)] ∧ Z.Warmed39 U.vm ∧ U.heap = h0) (fun _ _ _ _ _ => True) (fun _ U o U' => ∃ v L, o = .returned v ∧ Q4 Z a1 a2 w1 w2 h0 n0 v U'.heap L ∧ FrameEnd U o U' L ({ frames := 0, cells := 0, slots := 0, locals := 0 } : Room).cells ({ frames := 0, cells := 0, slots := 0, locals := 0 } : Room).slots) := by
  refine MetFree.of_bodySF (plainFor_of_name pn_4) hisR ?_
  intro p e s m args below meth c s₁ Bd hml0 hP hK
  obtain ⟨rfl, hZ, hh⟩ := hP
  have hx := Bd.exec
  have hby := Bd.bytes
  have hml : c.maxLocals = 2 := hml0
  have hown : s.vm.findClass "com/example/crisp_haptics/crisphaptics/RotaryInput$Detent" = some m.cls := findClass_of_methodNamed Bd.named
  have hnm := (name_of_methodNamed Bd.named Bd.method).1
  have X0 : Stand p l e ({ frames := 0, cells := 0, slots := 0, locals := 0 } : Room) s m #[(.ref a1), (.ref a2)] below meth c s₁ [] 0 0 := Stand.of_body Bd
  have e0 : s₁.heap = h0 := by rw [← hh, Bd.state]; rfl
  have N0 := Fr.nil n0
  have pre0 : ∀ t, Steps p.tables e below (s₁.setTop (mkF m 0 #[.val (.ref a1), .val (.ref a2)] [])) t → Steps p.tables e below (s₁.setTop (entryFrame m #[(.ref a1), (.ref a2)] 2)) t := fun t k => castTop (ef_4 m a1 a2) k
  have pre1 : ∀ t, Steps p.tables e below (s₁.setTop (mkF m 1 #[.val (.ref a1), .val (.ref a2)] [(.ref a1)])) t → Steps p.tables e below (s₁.setTop (entryFrame m #[(.ref a1), (.ref a2)] 2)) t := by
    refine fun t k => pre0 t ?_
    show Steps p.tables e below (s₁.setTop (mkF m 0 #[.val (.ref a1), .val (.ref a2)] [])) _
    refine XS.aloadN X0.here hx rfl (hb hby d4_0) rfl rfl ?_
    exact k
  obtain ⟨T2, X2, e2, st2⟩ := getF X0 hx hZ hown (host := "") (Or.inl (hw _ (List.mem_of_getElem? (i := 15) rfl))) Via.refl e0 F_timeNs_a1 (g := (mkF m 1 #[.val (.ref a1), .val (.ref a2)] [(.ref a1)])) rfl rfl (hb hby d4_1)
  have pre3 : ∀ t, Steps p.tables e below (T2.setTop (mkF m 4 #[.val (.ref a1), .val (.ref a2)] [(.long w1)])) t → Steps p.tables e below (s₁.setTop (entryFrame m #[(.ref a1), (.ref a2)] 2)) t := fun t k => pre1 t (st2 _ k)
  have pre4 : ∀ t, Steps p.tables e below (T2.setTop (mkF m 5 #[.val (.ref a1), .val (.ref a2)] [(.ref a2), (.long w1)])) t → Steps p.tables e below (s₁.setTop (entryFrame m #[(.ref a1), (.ref a2)] 2)) t := by
    refine fun t k => pre3 t ?_
    show Steps p.tables e below (T2.setTop (mkF m 4 #[.val (.ref a1), .val (.ref a2)] [(.long w1)])) _
    refine XS.aloadN X2.here hx rfl (hb hby d4_4) rfl rfl ?_
    exact k
  obtain ⟨T5, X5, e5, st5⟩ := getF X2 hx hZ hown (host := "") (Or.inl (hw _ (List.mem_of_getElem? (i := 15) rfl))) Via.refl e2 F_timeNs_a2 (g := (mkF m 5 #[.val (.ref a1), .val (.ref a2)] [(.ref a2), (.long w1)])) rfl rfl (hb hby d4_5)
  have pre6 : ∀ t, Steps p.tables e below (T5.setTop (mkF m 8 #[.val (.ref a1), .val (.ref a2)] [(.long w2), (.long w1)])) t → Steps p.tables e below (s₁.setTop (entryFrame m #[(.ref a1), (.ref a2)] 2)) t := fun t k => pre4 t (st5 _ k)
  have hc9 : w2 < w1 := by exact hlt
  have pre7 : ∀ t, Steps p.tables e below (T5.setTop (mkF m 33 #[.val (.ref a1), .val (.ref a2)] [])) t → Steps p.tables e below (s₁.setTop (entryFrame m #[(.ref a1), (.ref a2)] 2)) t := by
    refine fun t k => pre6 t ?_
    show Steps p.tables e below (T5.setTop (mkF m 8 #[.val (.ref a1), .val (.ref a2)] [(.long w2), (.long w1)])) _
    refine XS.lcmp X5.here hx rfl (hb hby d4_8) rfl ?_
    show Steps p.tables e below (T5.setTop (mkF m 9 #[.val (.ref a1), .val (.ref a2)] [(.int (lcmpW w1 w2))])) _
    refine XS.ifYes X5.here hx rfl (pc0 := 9) (pc' := 33) rfl (hb hby d4_9) rfl (jtlt hc9).2.2.1 (by decide) (by decide) ?_
    exact k
  obtain ⟨fs, hr, hrun, hended, hW, hsame⟩ := X5.leave (v := none) (fun _ => rfl)
  refine ⟨_, _, pre7 _ ?_, hrun, hended, _, _, rfl, ?_, ⟨_, rfl⟩, hW, hsame.mono (by decide) (by decide)⟩
  · skip
    show Steps p.tables e below (T5.setTop (mkF m 33 #[.val (.ref a1), .val (.ref a2)] [])) _
    exact X5.returnOut hx Bd.returns (hb hby d4_33) hr
  · show Q4 Z a1 a2 w1 w2 h0 n0 _ T5.heap _
    rw [e5]
    exact ⟨rfl, N0, rfl, trivial⟩
/-! body 5 -/
theorem d5_0 : decode prog_81_method_6_code 0 = .ok (.aload_n 0, 1) := by decide +kernel
theorem d5_1 : decode prog_81_method_6_code 1 = .ok (.getfield 19, 3) := by decide +kernel
theorem d5_4 : decode prog_81_method_6_code 4 = .ok (.lreturn, 1) := by decide +kernel
theorem pn_5 : plainName "com/example/crisp_haptics/crisphaptics/RotaryInput$Detent" = true := by first | (simp [plainName, overriddenIn]; done) | decide +kernel
theorem ef_5 (m : MethodId) (a1 : Addr) : entryFrame m #[(.ref a1)] 1 = mkF m 0 #[.val (.ref a1)] [] := by first | (simp [entryFrame, mkF, argsToLocals, Value.category]; done) | rfl
def Q5 (Z : State) (a1 : Addr) (w1 : Int64) (h0 : Heap) (n0 : Nat) (v : Option Value) (h : Heap) (L : List Loc) : Prop := ∃ r : Int64, v = some (.long r) ∧ Fr n0 L ∧ h = h0 ∧ (r = w1)
set_option maxRecDepth 65536 in
set_option maxHeartbeats 40000000 in
theorem rm5 (l : Launch) (Z : State) (a0 : Array Value) (hw : ∀ d ∈ tables_1, d.before a0 Z = true) (ws : List Jvm.Cond) (a1 : Addr) (w1 : Int64) (h0 : Heap) (n0 : Nat) (Z0 : n0 ≤ h0.size) (F_timeNs_a1 : Fld Z h0 a1 "com/example/crisp_haptics/crisphaptics/RotaryInput$Detent" "timeNs" "J" (.long w1)) :
    MetFree l (⟨"com/example/crisp_haptics/crisphaptics/RotaryInput$Detent", "timeNs", "()J"⟩ : MethodName) (head1 (Jvm.Cond.code (⟨"com/example/crisp_haptics/crisphaptics/RotaryInput$Detent", "timeNs", "()J"⟩ : MethodName) prog_81_method_6_code 1 (some .long) :: ws) ({ frames := 0, cells := 0, slots := 0, locals := 0 } : Room)) (fun a U => a = #[(.ref a1)] ∧ Z.Warmed39 U.vm ∧ U.heap = h0) (fun _ _ _ _ _ => True) (fun _ U o U' => ∃ v L, o = .returned v ∧ Q5 Z a1 w1 h0 n0 v U'.heap L ∧ FrameEnd U o U' L ({ frames := 0, cells := 0, slots := 0, locals := 0 } : Room).cells ({ frames := 0, cells := 0, slots := 0, locals := 0 } : Room).slots) := by
  refine MetFree.of_bodySF (plainFor_of_name pn_5) hisR ?_
  intro p e s m args below meth c s₁ Bd hml0 hP hK
  obtain ⟨rfl, hZ, hh⟩ := hP
  have hx := Bd.exec
  have hby := Bd.bytes
  have hml : c.maxLocals = 1 := hml0
  have hown : s.vm.findClass "com/example/crisp_haptics/crisphaptics/RotaryInput$Detent" = some m.cls := findClass_of_methodNamed Bd.named
  have hnm := (name_of_methodNamed Bd.named Bd.method).1
  have X0 : Stand p l e ({ frames := 0, cells := 0, slots := 0, locals := 0 } : Room) s m #[(.ref a1)] below meth c s₁ [] 0 0 := Stand.of_body Bd
  have e0 : s₁.heap = h0 := by rw [← hh, Bd.state]; rfl
  have N0 := Fr.nil n0
  have pre0 : ∀ t, Steps p.tables e below (s₁.setTop (mkF m 0 #[.val (.ref a1)] [])) t → Steps p.tables e below (s₁.setTop (entryFrame m #[(.ref a1)] 1)) t := fun t k => castTop (ef_5 m a1) k
  have pre1 : ∀ t, Steps p.tables e below (s₁.setTop (mkF m 1 #[.val (.ref a1)] [(.ref a1)])) t → Steps p.tables e below (s₁.setTop (entryFrame m #[(.ref a1)] 1)) t := by
    refine fun t k => pre0 t ?_
    show Steps p.tables e below (s₁.setTop (mkF m 0 #[.val (.ref a1)] [])) _
    refine XS.aloadN X0.here hx rfl (hb hby d5_0) rfl rfl ?_
    exact k
  obtain ⟨T2, X2, e2, st2⟩ := getF X0 hx hZ hown (host := "") (Or.inl (hw _ (List.mem_of_getElem? (i := 15) rfl))) Via.refl e0 F_timeNs_a1 (g := (mkF m 1 #[.val (.ref a1)] [(.ref a1)])) rfl rfl (hb hby d5_1)
  have pre3 : ∀ t, Steps p.tables e below (T2.setTop (mkF m 4 #[.val (.ref a1)] [(.long w1)])) t → Steps p.tables e below (s₁.setTop (entryFrame m #[(.ref a1)] 1)) t := fun t k => pre1 t (st2 _ k)
  obtain ⟨fs, hr, hrun, hended, hW, hsame⟩ := X2.leave (v := some (.long w1)) (fun h => by rw [Bd.returns] at h; cases h)
  refine ⟨_, _, pre3 _ ?_, hrun, hended, _, _, rfl, ?_, ⟨_, rfl⟩, hW, hsame.mono (by decide) (by decide)⟩
  · skip
    show Steps p.tables e below (T2.setTop (mkF m 4 #[.val (.ref a1)] [(.long w1)])) _
    exact X2.lreturnOut hx Bd.returns (hb hby d5_4) hr
  · show Q5 Z a1 w1 h0 n0 _ T2.heap _
    rw [e2]
    exact ⟨w1, rfl, N0, rfl, rfl⟩
/-! body 6 -/
theorem d6_0 : decode prog_81_method_7_code 0 = .ok (.aload_n 0, 1) := by decide +kernel
theorem d6_1 : decode prog_81_method_7_code 1 = .ok (.getfield 25, 3) := by decide +kernel
theorem d6_4 : decode prog_81_method_7_code 4 = .ok (.ireturn, 1) := by decide +kernel
theorem pn_6 : plainName "com/example/crisp_haptics/crisphaptics/RotaryInput$Detent" = true := by first | (simp [plainName, overriddenIn]; done) | decide +kernel
theorem ef_6 (m : MethodId) (a1 : Addr) : entryFrame m #[(.ref a1)] 1 = mkF m 0 #[.val (.ref a1)] [] := by first | (simp [entryFrame, mkF, argsToLocals, Value.category]; done) | rfl
def Q6 (Z : State) (a1 : Addr) (w1 : Int32) (h0 : Heap) (n0 : Nat) (v : Option Value) (h : Heap) (L : List Loc) : Prop := ∃ r : Int32, v = some (.int r) ∧ Fr n0 L ∧ h = h0 ∧ (r = w1)
set_option maxRecDepth 65536 in
set_option maxHeartbeats 40000000 in
theorem rm6 (l : Launch) (Z : State) (a0 : Array Value) (hw : ∀ d ∈ tables_1, d.before a0 Z = true) (ws : List Jvm.Cond) (a1 : Addr) (w1 : Int32) (h0 : Heap) (n0 : Nat) (Z0 : n0 ≤ h0.size) (F_direction_a1 : Fld Z h0 a1 "com/example/crisp_haptics/crisphaptics/RotaryInput$Detent" "direction" "I" (.int w1)) :
    MetFree l (⟨"com/example/crisp_haptics/crisphaptics/RotaryInput$Detent", "direction", "()I"⟩ : MethodName) (head1 (Jvm.Cond.code (⟨"com/example/crisp_haptics/crisphaptics/RotaryInput$Detent", "direction", "()I"⟩ : MethodName) prog_81_method_7_code 1 (some .int) :: ws) ({ frames := 0, cells := 0, slots := 0, locals := 0 } : Room)) (fun a U => a = #[(.ref a1)] ∧ Z.Warmed39 U.vm ∧ U.heap = h0) (fun _ _ _ _ _ => True) (fun _ U o U' => ∃ v L, o = .returned v ∧ Q6 Z a1 w1 h0 n0 v U'.heap L ∧ FrameEnd U o U' L ({ frames := 0, cells := 0, slots := 0, locals := 0 } : Room).cells ({ frames := 0, cells := 0, slots := 0, locals := 0 } : Room).slots) := by
  refine MetFree.of_bodySF (plainFor_of_name pn_6) hisR ?_
  intro p e s m args below meth c s₁ Bd hml0 hP hK
  obtain ⟨rfl, hZ, hh⟩ := hP
  have hx := Bd.exec
  have hby := Bd.bytes
  have hml : c.maxLocals = 1 := hml0
  have hown : s.vm.findClass "com/example/crisp_haptics/crisphaptics/RotaryInput$Detent" = some m.cls := findClass_of_methodNamed Bd.named
  have hnm := (name_of_methodNamed Bd.named Bd.method).1
  have X0 : Stand p l e ({ frames := 0, cells := 0, slots := 0, locals := 0 } : Room) s m #[(.ref a1)] below meth c s₁ [] 0 0 := Stand.of_body Bd
  have e0 : s₁.heap = h0 := by rw [← hh, Bd.state]; rfl
  have N0 := Fr.nil n0
  have pre0 : ∀ t, Steps p.tables e below (s₁.setTop (mkF m 0 #[.val (.ref a1)] [])) t → Steps p.tables e below (s₁.setTop (entryFrame m #[(.ref a1)] 1)) t := fun t k => castTop (ef_6 m a1) k
  have pre1 : ∀ t, Steps p.tables e below (s₁.setTop (mkF m 1 #[.val (.ref a1)] [(.ref a1)])) t → Steps p.tables e below (s₁.setTop (entryFrame m #[(.ref a1)] 1)) t := by
    refine fun t k => pre0 t ?_
    show Steps p.tables e below (s₁.setTop (mkF m 0 #[.val (.ref a1)] [])) _
    refine XS.aloadN X0.here hx rfl (hb hby d6_0) rfl rfl ?_
    exact k
  obtain ⟨T2, X2, e2, st2⟩ := getF X0 hx hZ hown (host := "") (Or.inl (hw _ (List.mem_of_getElem? (i := 17) rfl))) Via.refl e0 F_direction_a1 (g := (mkF m 1 #[.val (.ref a1)] [(.ref a1)])) rfl rfl (hb hby d6_1)
  have pre3 : ∀ t, Steps p.tables e below (T2.setTop (mkF m 4 #[.val (.ref a1)] [(.int w1)])) t → Steps p.tables e below (s₁.setTop (entryFrame m #[(.ref a1)] 1)) t := fun t k => pre1 t (st2 _ k)
  obtain ⟨fs, hr, hrun, hended, hW, hsame⟩ := X2.leave (v := some (.int w1)) (fun h => by rw [Bd.returns] at h; cases h)
  refine ⟨_, _, pre3 _ ?_, hrun, hended, _, _, rfl, ?_, ⟨_, rfl⟩, hW, hsame.mono (by decide) (by decide)⟩
  · skip
    show Steps p.tables e below (T2.setTop (mkF m 4 #[.val (.ref a1)] [(.int w1)])) _
    exact retI X2 hx Bd.returns (hb hby d6_4) hr
  · show Q6 Z a1 w1 h0 n0 _ T2.heap _
    rw [e2]
    exact ⟨w1, rfl, N0, rfl, rfl⟩
/-! body 0 -/
theorem pn_0 : plainName "com/example/crisp_haptics/crisphaptics/DetentCheckAfterPinLaw" = true := by first | (simp [plainName, overriddenIn]; done) | decide +kernel
theorem pd0_0 : parseMethodDescriptor "(JI)V" = some ⟨[.long, .int], none⟩ := by decide +kernel
theorem pd0_1 : parseMethodDescriptor "(Lcom/example/crisp_haptics/crisphaptics/RotaryInput$Detent;)V" = some ⟨[(.object "com/example/crisp_haptics/crisphaptics/RotaryInput$Detent")], none⟩ := by decide +kernel
theorem pd0_2 : parseMethodDescriptor "()J" = some ⟨[], some .long⟩ := by decide +kernel
theorem pd0_3 : parseMethodDescriptor "()I" = some ⟨[], some .int⟩ := by decide +kernel
theorem ef_0 (m : MethodId) (q1 : Int64) (q2 : Int64) (p3 : Int32) : entryFrame m #[(.long q1), (.long q2), (.int p3)] maxLocals = mkF m 0 #[.val (.long q1), .second, .val (.long q2), .second, .val (.int p3), .unset, .unset, .unset, .unset, .unset, .unset, .unset, .unset, .unset, .unset] [] := by first | (simp [entryFrame, mkF, argsToLocals, Value.category, maxLocals]; done) | rfl
def Q0 (Z : State) (q1 : Int64) (q2 : Int64) (p3 : Int32) (h0 : Heap) (n0 : Nat) (v : Option Value) (h : Heap) (L : List Loc) : Prop := v = some (.int 1) ∧ Fr n0 L
set_option maxRecDepth 65536 in
set_option maxHeartbeats 40000000 in
theorem rm0 (l : Launch) (Z : State) (a0 : Array Value) (hw : ∀ d ∈ tables_1, d.before a0 Z = true) (ws : List Jvm.Cond) (q1 : Int64) (q2 : Int64) (p3 : Int32) (h0 : Heap) (n0 : Nat) (Z0 : n0 ≤ h0.size)  :
    MetFree l x (head1 (Jvm.Cond.code x code maxLocals ret :: ws) room_1) (fun a U => a = #[(.long q1), (.long q2), (.int p3)] ∧ Z.Warmed39 U.vm ∧ U.heap = h0) (fun _ _ _ _ _ => True) (fun _ U o U' => ∃ v L, o = .returned v ∧ Q0 Z q1 q2 p3 h0 n0 v U'.heap L ∧ FrameEnd U o U' L room_1.cells room_1.slots) := by
  refine MetFree.of_bodySF (plainFor_of_name pn_0) hisR ?_
  intro p e s m args below meth c s₁ Bd hml0 hP hK
  obtain ⟨rfl, hZ, hh⟩ := hP
  have hx := Bd.exec
  have hby := Bd.bytes
  have hml : c.maxLocals = 15 := hml0
  have hown : s.vm.findClass "com/example/crisp_haptics/crisphaptics/DetentCheckAfterPinLaw" = some m.cls := findClass_of_methodNamed Bd.named
  have hnm := (name_of_methodNamed Bd.named Bd.method).1
  have X0 : Stand p l e room_1 s m #[(.long q1), (.long q2), (.int p3)] below meth c s₁ [] 0 0 := Stand.of_body Bd
  have e0 : s₁.heap = h0 := by rw [← hh, Bd.state]; rfl
  have N0 := Fr.nil n0
  have pre0 : ∀ t, Steps p.tables e below (s₁.setTop (mkF m 0 #[.val (.long q1), .second, .val (.long q2), .second, .val (.int p3), .unset, .unset, .unset, .unset, .unset, .unset, .unset, .unset, .unset, .unset] [])) t → Steps p.tables e below (s₁.setTop (entryFrame m #[(.long q1), (.long q2), (.int p3)] maxLocals)) t := fun t k => castTop (ef_0 m q1 q2 p3) k
  obtain ⟨v2, hv_v2, pre1⟩ : ∃ v2 : Int64, v2 = (q1 &&& (9223372036854775807 : Int64)) ∧ (∀ t, Steps p.tables e below (s₁.setTop (mkF m 7 #[.val (.long q1), .second, .val (.long q2), .second, .val (.int p3), .val (.long v2), .second, .unset, .unset, .unset, .unset, .unset, .unset, .unset, .unset] [])) t → Steps p.tables e below (s₁.setTop (entryFrame m #[(.long q1), (.long q2), (.int p3)] maxLocals)) t) := by
    refine ⟨_, rfl, fun t k => pre0 t ?_⟩
    show Steps p.tables e below (s₁.setTop (mkF m 0 #[.val (.long q1), .second, .val (.long q2), .second, .val (.int p3), .unset, .unset, .unset, .unset, .unset, .unset, .unset, .unset, .unset, .unset] [])) _
    refine XS.lloadN X0.here hx rfl (hb hby at_0) rfl ?_
    show Steps p.tables e below (s₁.setTop (mkF m 1 #[.val (.long q1), .second, .val (.long q2), .second, .val (.int p3), .unset, .unset, .unset, .unset, .unset, .unset, .unset, .unset, .unset, .unset] [(.long q1)])) _
    refine X0.ldc2Long hx hown (mvT hZ (hw _ (List.mem_of_getElem? (i := 0) rfl))) (g := (mkF m 1 #[.val (.long q1), .second, .val (.long q2), .second, .val (.int p3), .unset, .unset, .unset, .unset, .unset, .unset, .unset, .unset, .unset, .unset] [(.long q1)])) rfl (hb hby at_1) _ ?_
    show Steps p.tables e below (s₁.setTop (mkF m 4 #[.val (.long q1), .second, .val (.long q2), .second, .val (.int p3), .unset, .unset, .unset, .unset, .unset, .unset, .unset, .unset, .unset, .unset] [(.long (9223372036854775807 : Int64)), (.long q1)])) _
    refine XS.land X0.here hx rfl (hb hby at_4) rfl ?_
    show Steps p.tables e below (s₁.setTop (mkF m 5 #[.val (.long q1), .second, .val (.long q2), .second, .val (.int p3), .unset, .unset, .unset, .unset, .unset, .unset, .unset, .unset, .unset, .unset] [(.long (q1 &&& (9223372036854775807 : Int64)))])) _
    refine XS.lstore X0.here hx rfl (hb hby at_5) rfl (l' := #[.val (.long q1), .second, .val (.long q2), .second, .val (.int p3), .val (.long (q1 &&& (9223372036854775807 : Int64))), .second, .unset, .unset, .unset, .unset, .unset, .unset, .unset, .unset]) rfl ?_
    exact k
  have pre3 : ∀ t, Steps p.tables e below (s₁.setTop (mkF m 13 #[.val (.long q1), .second, .val (.long q2), .second, .val (.int p3), .val (.long v2), .second, .unset, .unset, .unset, .unset, .unset, .unset, .unset, .unset] [(.int (lcmpW v2 (9223372036854775807 : Int64)))])) t → Steps p.tables e below (s₁.setTop (entryFrame m #[(.long q1), (.long q2), (.int p3)] maxLocals)) t := by
    refine fun t k => pre1 t ?_
    show Steps p.tables e below (s₁.setTop (mkF m 7 #[.val (.long q1), .second, .val (.long q2), .second, .val (.int p3), .val (.long v2), .second, .unset, .unset, .unset, .unset, .unset, .unset, .unset, .unset] [])) _
    refine XS.lload X0.here hx rfl (hb hby at_7) rfl ?_
    show Steps p.tables e below (s₁.setTop (mkF m 9 #[.val (.long q1), .second, .val (.long q2), .second, .val (.int p3), .val (.long v2), .second, .unset, .unset, .unset, .unset, .unset, .unset, .unset, .unset] [(.long v2)])) _
    refine X0.ldc2Long hx hown (mvT hZ (hw _ (List.mem_of_getElem? (i := 0) rfl))) (g := (mkF m 9 #[.val (.long q1), .second, .val (.long q2), .second, .val (.int p3), .val (.long v2), .second, .unset, .unset, .unset, .unset, .unset, .unset, .unset, .unset] [(.long v2)])) rfl (hb hby at_9) _ ?_
    show Steps p.tables e below (s₁.setTop (mkF m 12 #[.val (.long q1), .second, .val (.long q2), .second, .val (.int p3), .val (.long v2), .second, .unset, .unset, .unset, .unset, .unset, .unset, .unset, .unset] [(.long (9223372036854775807 : Int64)), (.long v2)])) _
    refine XS.lcmp X0.here hx rfl (hb hby at_12) rfl ?_
    exact k
  by_cases hc13 : v2 = (9223372036854775807 : Int64)
  · skip
    have pre4 : ∀ t, Steps p.tables e below (s₁.setTop (mkF m 16 #[.val (.long q1), .second, .val (.long q2), .second, .val (.int p3), .val (.long v2), .second, .unset, .unset, .unset, .unset, .unset, .unset, .unset, .unset] [])) t → Steps p.tables e below (s₁.setTop (entryFrame m #[(.long q1), (.long q2), (.int p3)] maxLocals)) t := by
      refine fun t k => pre3 t ?_
      show Steps p.tables e below (s₁.setTop (mkF m 13 #[.val (.long q1), .second, .val (.long q2), .second, .val (.int p3), .val (.long v2), .second, .unset, .unset, .unset, .unset, .unset, .unset, .unset, .unset] [(.int (lcmpW v2 (9223372036854775807 : Int64)))])) _
      refine XS.ifNo X0.here hx rfl (hb hby at_13) rfl (jteq hc13).2 ?_
      exact k
    obtain ⟨fs, hr, hrun, hended, hW, hsame⟩ := X0.leave (v := some (.int (1 : Int32))) (fun h => by rw [Bd.returns] at h; cases h)
    refine ⟨_, _, pre4 _ ?_, hrun, hended, _, _, rfl, ?_, ⟨_, rfl⟩, hW, hsame.mono (by decide) (by decide)⟩
    · skip
      show Steps p.tables e below (s₁.setTop (mkF m 16 #[.val (.long q1), .second, .val (.long q2), .second, .val (.int p3), .val (.long v2), .second, .unset, .unset, .unset, .unset, .unset, .unset, .unset, .unset] [])) _
      refine XS.iconst X0.here hx rfl (hb hby at_16) ?_
      show Steps p.tables e below (s₁.setTop (mkF m 17 #[.val (.long q1), .second, .val (.long q2), .second, .val (.int p3), .val (.long v2), .second, .unset, .unset, .unset, .unset, .unset, .unset, .unset, .unset] [(.int (1 : Int32))])) _
      exact retN X0 hx (t := .boolean) Bd.returns (by simp) (hb hby at_17) hr
    · show Q0 Z q1 q2 p3 h0 n0 _ s₁.heap _
      rw [e0]
      exact ⟨rfl, N0⟩
  · skip
    have pre5 : ∀ t, Steps p.tables e below (s₁.setTop (mkF m 18 #[.val (.long q1), .second, .val (.long q2), .second, .val (.int p3), .val (.long v2), .second, .unset, .unset, .unset, .unset, .unset, .unset, .unset, .unset] [])) t → Steps p.tables e below (s₁.setTop (entryFrame m #[(.long q1), (.long q2), (.int p3)] maxLocals)) t := by
      refine fun t k => pre3 t ?_
      show Steps p.tables e below (s₁.setTop (mkF m 13 #[.val (.long q1), .second, .val (.long q2), .second, .val (.int p3), .val (.long v2), .second, .unset, .unset, .unset, .unset, .unset, .unset, .unset, .unset] [(.int (lcmpW v2 (9223372036854775807 : Int64)))])) _
      refine XS.ifYes X0.here hx rfl (pc0 := 13) (pc' := 18) rfl (hb hby at_13) rfl (jfeq hc13).2 (by decide) (by decide) ?_
      exact k
    obtain ⟨v7, hv_v7, pre6⟩ : ∃ v7 : Int64, v7 = ((9223372036854775807 : Int64) - v2) ∧ (∀ t, Steps p.tables e below (s₁.setTop (mkF m 26 #[.val (.long q1), .second, .val (.long q2), .second, .val (.int p3), .val (.long v2), .second, .val (.long v7), .second, .unset, .unset, .unset, .unset, .unset, .unset] [])) t → Steps p.tables e below (s₁.setTop (entryFrame m #[(.long q1), (.long q2), (.int p3)] maxLocals)) t) := by
      refine ⟨_, rfl, fun t k => pre5 t ?_⟩
      show Steps p.tables e below (s₁.setTop (mkF m 18 #[.val (.long q1), .second, .val (.long q2), .second, .val (.int p3), .val (.long v2), .second, .unset, .unset, .unset, .unset, .unset, .unset, .unset, .unset] [])) _
      refine X0.ldc2Long hx hown (mvT hZ (hw _ (List.mem_of_getElem? (i := 0) rfl))) (g := (mkF m 18 #[.val (.long q1), .second, .val (.long q2), .second, .val (.int p3), .val (.long v2), .second, .unset, .unset, .unset, .unset, .unset, .unset, .unset, .unset] [])) rfl (hb hby at_18) _ ?_
      show Steps p.tables e below (s₁.setTop (mkF m 21 #[.val (.long q1), .second, .val (.long q2), .second, .val (.int p3), .val (.long v2), .second, .unset, .unset, .unset, .unset, .unset, .unset, .unset, .unset] [(.long (9223372036854775807 : Int64))])) _
      refine XS.lload X0.here hx rfl (hb hby at_21) rfl ?_
      show Steps p.tables e below (s₁.setTop (mkF m 23 #[.val (.long q1), .second, .val (.long q2), .second, .val (.int p3), .val (.long v2), .second, .unset, .unset, .unset, .unset, .unset, .unset, .unset, .unset] [(.long v2), (.long (9223372036854775807 : Int64))])) _
      refine XS.lsub X0.here hx rfl (hb hby at_23) rfl ?_
      show Steps p.tables e below (s₁.setTop (mkF m 24 #[.val (.long q1), .second, .val (.long q2), .second, .val (.int p3), .val (.long v2), .second, .unset, .unset, .unset, .unset, .unset, .unset, .unset, .unset] [(.long ((9223372036854775807 : Int64) - v2))])) _
      refine XS.lstore X0.here hx rfl (hb hby at_24) rfl (l' := #[.val (.long q1), .second, .val (.long q2), .second, .val (.int p3), .val (.long v2), .second, .val (.long ((9223372036854775807 : Int64) - v2)), .second, .unset, .unset, .unset, .unset, .unset, .unset]) rfl ?_
      exact k
    have hp0 : 0 ≤ v2.toInt := by rw [hv_v2]; exact own_p q1
    have hnz53 : ¬ (v7 = (0 : Int64)) := own_snz hp0 hc13 hv_v7
    obtain ⟨v8, hj9, pre9⟩ : ∃ v8 : Int64, (((p3 &&& (1 : Int32)) = (0 : Int32) ∧ v8 = ((v2 + (1 : Int64)) + ((q2 &&& (9223372036854775807 : Int64)) - ((q2 &&& (9223372036854775807 : Int64)) / v7) * v7))) ∨ (¬ ((p3 &&& (1 : Int32)) = (0 : Int32)) ∧ v8 = (v2 + (1 : Int64)))) ∧ (∀ t, Steps p.tables e below (s₁.setTop (mkF m 57 #[.val (.long q1), .second, .val (.long q2), .second, .val (.int p3), .val (.long v2), .second, .val (.long v7), .second, .val (.long v8), .second, .unset, .unset, .unset, .unset] [])) t → Steps p.tables e below (s₁.setTop (entryFrame m #[(.long q1), (.long q2), (.int p3)] maxLocals)) t) := by
      by_cases hb0_30 : (p3 &&& (1 : Int32)) = (0 : Int32)
      · skip
        refine ⟨((v2 + (1 : Int64)) + ((q2 &&& (9223372036854775807 : Int64)) - ((q2 &&& (9223372036854775807 : Int64)) / v7) * v7)), Or.inl (⟨hb0_30, rfl⟩), fun t k => pre6 t ?_⟩
        show Steps p.tables e below (s₁.setTop (mkF m 26 #[.val (.long q1), .second, .val (.long q2), .second, .val (.int p3), .val (.long v2), .second, .val (.long v7), .second, .unset, .unset, .unset, .unset, .unset, .unset] [])) _
        refine XS.iload X0.here hx rfl (hb hby at_26) rfl ?_
        show Steps p.tables e below (s₁.setTop (mkF m 28 #[.val (.long q1), .second, .val (.long q2), .second, .val (.int p3), .val (.long v2), .second, .val (.long v7), .second, .unset, .unset, .unset, .unset, .unset, .unset] [(.int p3)])) _
        refine XS.iconst X0.here hx rfl (hb hby at_28) ?_
        show Steps p.tables e below (s₁.setTop (mkF m 29 #[.val (.long q1), .second, .val (.long q2), .second, .val (.int p3), .val (.long v2), .second, .val (.long v7), .second, .unset, .unset, .unset, .unset, .unset, .unset] [(.int (1 : Int32)), (.int p3)])) _
        refine XS.iand X0.here hx rfl (hb hby at_29) rfl ?_
        show Steps p.tables e below (s₁.setTop (mkF m 30 #[.val (.long q1), .second, .val (.long q2), .second, .val (.int p3), .val (.long v2), .second, .val (.long v7), .second, .unset, .unset, .unset, .unset, .unset, .unset] [(.int (p3 &&& (1 : Int32)))])) _
        refine XS.ifYes X0.here hx rfl (pc0 := 30) (pc' := 42) rfl (hb hby at_30) rfl ((if0 _ _).trans (teq hb0_30).1) (by decide) (by decide) ?_
        show Steps p.tables e below (s₁.setTop (mkF m 42 #[.val (.long q1), .second, .val (.long q2), .second, .val (.int p3), .val (.long v2), .second, .val (.long v7), .second, .unset, .unset, .unset, .unset, .unset, .unset] [])) _
        refine XS.lload X0.here hx rfl (hb hby at_42) rfl ?_
        show Steps p.tables e below (s₁.setTop (mkF m 44 #[.val (.long q1), .second, .val (.long q2), .second, .val (.int p3), .val (.long v2), .second, .val (.long v7), .second, .unset, .unset, .unset, .unset, .unset, .unset] [(.long v2)])) _
        refine XS.lconst X0.here hx rfl (hb hby at_44) ?_
        show Steps p.tables e below (s₁.setTop (mkF m 45 #[.val (.long q1), .second, .val (.long q2), .second, .val (.int p3), .val (.long v2), .second, .val (.long v7), .second, .unset, .unset, .unset, .unset, .unset, .unset] [(.long (1 : Int64)), (.long v2)])) _
        refine XS.ladd X0.here hx rfl (hb hby at_45) rfl ?_
        show Steps p.tables e below (s₁.setTop (mkF m 46 #[.val (.long q1), .second, .val (.long q2), .second, .val (.int p3), .val (.long v2), .second, .val (.long v7), .second, .unset, .unset, .unset, .unset, .unset, .unset] [(.long (v2 + (1 : Int64)))])) _
        refine XS.lloadN X0.here hx rfl (hb hby at_46) rfl ?_
        show Steps p.tables e below (s₁.setTop (mkF m 47 #[.val (.long q1), .second, .val (.long q2), .second, .val (.int p3), .val (.long v2), .second, .val (.long v7), .second, .unset, .unset, .unset, .unset, .unset, .unset] [(.long q2), (.long (v2 + (1 : Int64)))])) _
        refine X0.ldc2Long hx hown (mvT hZ (hw _ (List.mem_of_getElem? (i := 0) rfl))) (g := (mkF m 47 #[.val (.long q1), .second, .val (.long q2), .second, .val (.int p3), .val (.long v2), .second, .val (.long v7), .second, .unset, .unset, .unset, .unset, .unset, .unset] [(.long q2), (.long (v2 + (1 : Int64)))])) rfl (hb hby at_47) _ ?_
        show Steps p.tables e below (s₁.setTop (mkF m 50 #[.val (.long q1), .second, .val (.long q2), .second, .val (.int p3), .val (.long v2), .second, .val (.long v7), .second, .unset, .unset, .unset, .unset, .unset, .unset] [(.long (9223372036854775807 : Int64)), (.long q2), (.long (v2 + (1 : Int64)))])) _
        refine XS.land X0.here hx rfl (hb hby at_50) rfl ?_
        show Steps p.tables e below (s₁.setTop (mkF m 51 #[.val (.long q1), .second, .val (.long q2), .second, .val (.int p3), .val (.long v2), .second, .val (.long v7), .second, .unset, .unset, .unset, .unset, .unset, .unset] [(.long (q2 &&& (9223372036854775807 : Int64))), (.long (v2 + (1 : Int64)))])) _
        refine XS.lload X0.here hx rfl (hb hby at_51) rfl ?_
        show Steps p.tables e below (s₁.setTop (mkF m 53 #[.val (.long q1), .second, .val (.long q2), .second, .val (.int p3), .val (.long v2), .second, .val (.long v7), .second, .unset, .unset, .unset, .unset, .unset, .unset] [(.long v7), (.long (q2 &&& (9223372036854775807 : Int64))), (.long (v2 + (1 : Int64)))])) _
        refine XS.lrem X0.here hx rfl (hb hby at_53) rfl hnz53 ?_
        show Steps p.tables e below (s₁.setTop (mkF m 54 #[.val (.long q1), .second, .val (.long q2), .second, .val (.int p3), .val (.long v2), .second, .val (.long v7), .second, .unset, .unset, .unset, .unset, .unset, .unset] [(.long ((q2 &&& (9223372036854775807 : Int64)) - ((q2 &&& (9223372036854775807 : Int64)) / v7) * v7)), (.long (v2 + (1 : Int64)))])) _
        refine XS.ladd X0.here hx rfl (hb hby at_54) rfl ?_
        show Steps p.tables e below (s₁.setTop (mkF m 55 #[.val (.long q1), .second, .val (.long q2), .second, .val (.int p3), .val (.long v2), .second, .val (.long v7), .second, .unset, .unset, .unset, .unset, .unset, .unset] [(.long ((v2 + (1 : Int64)) + ((q2 &&& (9223372036854775807 : Int64)) - ((q2 &&& (9223372036854775807 : Int64)) / v7) * v7)))])) _
        refine XS.lstore X0.here hx rfl (hb hby at_55) rfl (l' := #[.val (.long q1), .second, .val (.long q2), .second, .val (.int p3), .val (.long v2), .second, .val (.long v7), .second, .val (.long ((v2 + (1 : Int64)) + ((q2 &&& (9223372036854775807 : Int64)) - ((q2 &&& (9223372036854775807 : Int64)) / v7) * v7))), .second, .unset, .unset, .unset, .unset]) rfl ?_
        exact k
      · skip
        refine ⟨(v2 + (1 : Int64)), Or.inr (⟨hb0_30, rfl⟩), fun t k => pre6 t ?_⟩
        show Steps p.tables e below (s₁.setTop (mkF m 26 #[.val (.long q1), .second, .val (.long q2), .second, .val (.int p3), .val (.long v2), .second, .val (.long v7), .second, .unset, .unset, .unset, .unset, .unset, .unset] [])) _
        refine XS.iload X0.here hx rfl (hb hby at_26) rfl ?_
        show Steps p.tables e below (s₁.setTop (mkF m 28 #[.val (.long q1), .second, .val (.long q2), .second, .val (.int p3), .val (.long v2), .second, .val (.long v7), .second, .unset, .unset, .unset, .unset, .unset, .unset] [(.int p3)])) _
        refine XS.iconst X0.here hx rfl (hb hby at_28) ?_
        show Steps p.tables e below (s₁.setTop (mkF m 29 #[.val (.long q1), .second, .val (.long q2), .second, .val (.int p3), .val (.long v2), .second, .val (.long v7), .second, .unset, .unset, .unset, .unset, .unset, .unset] [(.int (1 : Int32)), (.int p3)])) _
        refine XS.iand X0.here hx rfl (hb hby at_29) rfl ?_
        show Steps p.tables e below (s₁.setTop (mkF m 30 #[.val (.long q1), .second, .val (.long q2), .second, .val (.int p3), .val (.long v2), .second, .val (.long v7), .second, .unset, .unset, .unset, .unset, .unset, .unset] [(.int (p3 &&& (1 : Int32)))])) _
        refine XS.ifNo X0.here hx rfl (hb hby at_30) rfl ((if0 _ _).trans (feq hb0_30).1) ?_
        show Steps p.tables e below (s₁.setTop (mkF m 33 #[.val (.long q1), .second, .val (.long q2), .second, .val (.int p3), .val (.long v2), .second, .val (.long v7), .second, .unset, .unset, .unset, .unset, .unset, .unset] [])) _
        refine XS.lload X0.here hx rfl (hb hby at_33) rfl ?_
        show Steps p.tables e below (s₁.setTop (mkF m 35 #[.val (.long q1), .second, .val (.long q2), .second, .val (.int p3), .val (.long v2), .second, .val (.long v7), .second, .unset, .unset, .unset, .unset, .unset, .unset] [(.long v2)])) _
        refine XS.lconst X0.here hx rfl (hb hby at_35) ?_
        show Steps p.tables e below (s₁.setTop (mkF m 36 #[.val (.long q1), .second, .val (.long q2), .second, .val (.int p3), .val (.long v2), .second, .val (.long v7), .second, .unset, .unset, .unset, .unset, .unset, .unset] [(.long (1 : Int64)), (.long v2)])) _
        refine XS.ladd X0.here hx rfl (hb hby at_36) rfl ?_
        show Steps p.tables e below (s₁.setTop (mkF m 37 #[.val (.long q1), .second, .val (.long q2), .second, .val (.int p3), .val (.long v2), .second, .val (.long v7), .second, .unset, .unset, .unset, .unset, .unset, .unset] [(.long (v2 + (1 : Int64)))])) _
        refine XS.lstore X0.here hx rfl (hb hby at_37) rfl (l' := #[.val (.long q1), .second, .val (.long q2), .second, .val (.int p3), .val (.long v2), .second, .val (.long v7), .second, .val (.long (v2 + (1 : Int64))), .second, .unset, .unset, .unset, .unset]) rfl ?_
        show Steps p.tables e below (s₁.setTop (mkF m 39 #[.val (.long q1), .second, .val (.long q2), .second, .val (.int p3), .val (.long v2), .second, .val (.long v7), .second, .val (.long (v2 + (1 : Int64))), .second, .unset, .unset, .unset, .unset] [])) _
        refine XS.goto X0.here hx rfl (pc0 := 39) (pc' := 57) rfl (hb hby at_39) (by decide) (by decide) ?_
        exact k
    have hlt : v2.toInt < v8.toInt := own_t (b := q2) hp0 hc13 hv_v7 (by first | (rcases hj9 with q | q; exact Or.inl q.2; exact Or.inr q.2) | (rcases hj9 with q | q; exact Or.inr q.2; exact Or.inl q.2))
    have ez : (0 : Int64).toInt = 0 := by decide
    have hpn : ¬ (v2 < (0 : Int64)) := by rw [Int64.lt_iff_toInt_lt, ez]; omega
    have htn : ¬ (v8 < (0 : Int64)) := by rw [Int64.lt_iff_toInt_lt, ez]; omega
    have hpt : v2 < v8 := by rw [Int64.lt_iff_toInt_lt]; exact hlt
    obtain ⟨v10, hj11, pre11⟩ : ∃ v10 : Int32, (((p3 &&& (2 : Int32)) = (0 : Int32) ∧ v10 = (-1 : Int32)) ∨ (¬ ((p3 &&& (2 : Int32)) = (0 : Int32)) ∧ v10 = (1 : Int32))) ∧ (∀ t, Steps p.tables e below (s₁.setTop (mkF m 69 #[.val (.long q1), .second, .val (.long q2), .second, .val (.int p3), .val (.long v2), .second, .val (.long v7), .second, .val (.long v8), .second, .unset, .unset, .unset, .unset] [(.int v10)])) t → Steps p.tables e below (s₁.setTop (entryFrame m #[(.long q1), (.long q2), (.int p3)] maxLocals)) t) := by
      by_cases hb0_61 : (p3 &&& (2 : Int32)) = (0 : Int32)
      · skip
        refine ⟨(-1 : Int32), Or.inl (⟨hb0_61, rfl⟩), fun t k => pre9 t ?_⟩
        show Steps p.tables e below (s₁.setTop (mkF m 57 #[.val (.long q1), .second, .val (.long q2), .second, .val (.int p3), .val (.long v2), .second, .val (.long v7), .second, .val (.long v8), .second, .unset, .unset, .unset, .unset] [])) _
        refine XS.iload X0.here hx rfl (hb hby at_57) rfl ?_
        show Steps p.tables e below (s₁.setTop (mkF m 59 #[.val (.long q1), .second, .val (.long q2), .second, .val (.int p3), .val (.long v2), .second, .val (.long v7), .second, .val (.long v8), .second, .unset, .unset, .unset, .unset] [(.int p3)])) _
        refine XS.iconst X0.here hx rfl (hb hby at_59) ?_
        show Steps p.tables e below (s₁.setTop (mkF m 60 #[.val (.long q1), .second, .val (.long q2), .second, .val (.int p3), .val (.long v2), .second, .val (.long v7), .second, .val (.long v8), .second, .unset, .unset, .unset, .unset] [(.int (2 : Int32)), (.int p3)])) _
        refine XS.iand X0.here hx rfl (hb hby at_60) rfl ?_
        show Steps p.tables e below (s₁.setTop (mkF m 61 #[.val (.long q1), .second, .val (.long q2), .second, .val (.int p3), .val (.long v2), .second, .val (.long v7), .second, .val (.long v8), .second, .unset, .unset, .unset, .unset] [(.int (p3 &&& (2 : Int32)))])) _
        refine XS.ifYes X0.here hx rfl (pc0 := 61) (pc' := 68) rfl (hb hby at_61) rfl ((if0 _ _).trans (teq hb0_61).1) (by decide) (by decide) ?_
        show Steps p.tables e below (s₁.setTop (mkF m 68 #[.val (.long q1), .second, .val (.long q2), .second, .val (.int p3), .val (.long v2), .second, .val (.long v7), .second, .val (.long v8), .second, .unset, .unset, .unset, .unset] [])) _
        refine XS.iconst X0.here hx rfl (hb hby at_68) ?_
        exact k
      · skip
        refine ⟨(1 : Int32), Or.inr (⟨hb0_61, rfl⟩), fun t k => pre9 t ?_⟩
        show Steps p.tables e below (s₁.setTop (mkF m 57 #[.val (.long q1), .second, .val (.long q2), .second, .val (.int p3), .val (.long v2), .second, .val (.long v7), .second, .val (.long v8), .second, .unset, .unset, .unset, .unset] [])) _
        refine XS.iload X0.here hx rfl (hb hby at_57) rfl ?_
        show Steps p.tables e below (s₁.setTop (mkF m 59 #[.val (.long q1), .second, .val (.long q2), .second, .val (.int p3), .val (.long v2), .second, .val (.long v7), .second, .val (.long v8), .second, .unset, .unset, .unset, .unset] [(.int p3)])) _
        refine XS.iconst X0.here hx rfl (hb hby at_59) ?_
        show Steps p.tables e below (s₁.setTop (mkF m 60 #[.val (.long q1), .second, .val (.long q2), .second, .val (.int p3), .val (.long v2), .second, .val (.long v7), .second, .val (.long v8), .second, .unset, .unset, .unset, .unset] [(.int (2 : Int32)), (.int p3)])) _
        refine XS.iand X0.here hx rfl (hb hby at_60) rfl ?_
        show Steps p.tables e below (s₁.setTop (mkF m 61 #[.val (.long q1), .second, .val (.long q2), .second, .val (.int p3), .val (.long v2), .second, .val (.long v7), .second, .val (.long v8), .second, .unset, .unset, .unset, .unset] [(.int (p3 &&& (2 : Int32)))])) _
        refine XS.ifNo X0.here hx rfl (hb hby at_61) rfl ((if0 _ _).trans (feq hb0_61).1) ?_
        show Steps p.tables e below (s₁.setTop (mkF m 64 #[.val (.long q1), .second, .val (.long q2), .second, .val (.int p3), .val (.long v2), .second, .val (.long v7), .second, .val (.long v8), .second, .unset, .unset, .unset, .unset] [])) _
        refine XS.iconst X0.here hx rfl (hb hby at_64) ?_
        show Steps p.tables e below (s₁.setTop (mkF m 65 #[.val (.long q1), .second, .val (.long q2), .second, .val (.int p3), .val (.long v2), .second, .val (.long v7), .second, .val (.long v8), .second, .unset, .unset, .unset, .unset] [(.int (1 : Int32))])) _
        refine XS.goto X0.here hx rfl (pc0 := 65) (pc' := 69) rfl (hb hby at_65) (by decide) (by decide) ?_
        exact k
    obtain ⟨v12, hj13, pre13⟩ : ∃ v12 : Int32, (((p3 &&& (4 : Int32)) = (0 : Int32) ∧ v12 = (-1 : Int32)) ∨ (¬ ((p3 &&& (4 : Int32)) = (0 : Int32)) ∧ v12 = (1 : Int32))) ∧ (∀ t, Steps p.tables e below (s₁.setTop (mkF m 83 #[.val (.long q1), .second, .val (.long q2), .second, .val (.int p3), .val (.long v2), .second, .val (.long v7), .second, .val (.long v8), .second, .val (.int v10), .unset, .unset, .unset] [(.int v12)])) t → Steps p.tables e below (s₁.setTop (entryFrame m #[(.long q1), (.long q2), (.int p3)] maxLocals)) t) := by
      by_cases hb0_75 : (p3 &&& (4 : Int32)) = (0 : Int32)
      · skip
        refine ⟨(-1 : Int32), Or.inl (⟨hb0_75, rfl⟩), fun t k => pre11 t ?_⟩
        show Steps p.tables e below (s₁.setTop (mkF m 69 #[.val (.long q1), .second, .val (.long q2), .second, .val (.int p3), .val (.long v2), .second, .val (.long v7), .second, .val (.long v8), .second, .unset, .unset, .unset, .unset] [(.int v10)])) _
        refine XS.istore X0.here hx rfl (hb hby at_69) rfl (l' := #[.val (.long q1), .second, .val (.long q2), .second, .val (.int p3), .val (.long v2), .second, .val (.long v7), .second, .val (.long v8), .second, .val (.int v10), .unset, .unset, .unset]) rfl ?_
        show Steps p.tables e below (s₁.setTop (mkF m 71 #[.val (.long q1), .second, .val (.long q2), .second, .val (.int p3), .val (.long v2), .second, .val (.long v7), .second, .val (.long v8), .second, .val (.int v10), .unset, .unset, .unset] [])) _
        refine XS.iload X0.here hx rfl (hb hby at_71) rfl ?_
        show Steps p.tables e below (s₁.setTop (mkF m 73 #[.val (.long q1), .second, .val (.long q2), .second, .val (.int p3), .val (.long v2), .second, .val (.long v7), .second, .val (.long v8), .second, .val (.int v10), .unset, .unset, .unset] [(.int p3)])) _
        refine XS.iconst X0.here hx rfl (hb hby at_73) ?_
        show Steps p.tables e below (s₁.setTop (mkF m 74 #[.val (.long q1), .second, .val (.long q2), .second, .val (.int p3), .val (.long v2), .second, .val (.long v7), .second, .val (.long v8), .second, .val (.int v10), .unset, .unset, .unset] [(.int (4 : Int32)), (.int p3)])) _
        refine XS.iand X0.here hx rfl (hb hby at_74) rfl ?_
        show Steps p.tables e below (s₁.setTop (mkF m 75 #[.val (.long q1), .second, .val (.long q2), .second, .val (.int p3), .val (.long v2), .second, .val (.long v7), .second, .val (.long v8), .second, .val (.int v10), .unset, .unset, .unset] [(.int (p3 &&& (4 : Int32)))])) _
        refine XS.ifYes X0.here hx rfl (pc0 := 75) (pc' := 82) rfl (hb hby at_75) rfl ((if0 _ _).trans (teq hb0_75).1) (by decide) (by decide) ?_
        show Steps p.tables e below (s₁.setTop (mkF m 82 #[.val (.long q1), .second, .val (.long q2), .second, .val (.int p3), .val (.long v2), .second, .val (.long v7), .second, .val (.long v8), .second, .val (.int v10), .unset, .unset, .unset] [])) _
        refine XS.iconst X0.here hx rfl (hb hby at_82) ?_
        exact k
      · skip
        refine ⟨(1 : Int32), Or.inr (⟨hb0_75, rfl⟩), fun t k => pre11 t ?_⟩
        show Steps p.tables e below (s₁.setTop (mkF m 69 #[.val (.long q1), .second, .val (.long q2), .second, .val (.int p3), .val (.long v2), .second, .val (.long v7), .second, .val (.long v8), .second, .unset, .unset, .unset, .unset] [(.int v10)])) _
        refine XS.istore X0.here hx rfl (hb hby at_69) rfl (l' := #[.val (.long q1), .second, .val (.long q2), .second, .val (.int p3), .val (.long v2), .second, .val (.long v7), .second, .val (.long v8), .second, .val (.int v10), .unset, .unset, .unset]) rfl ?_
        show Steps p.tables e below (s₁.setTop (mkF m 71 #[.val (.long q1), .second, .val (.long q2), .second, .val (.int p3), .val (.long v2), .second, .val (.long v7), .second, .val (.long v8), .second, .val (.int v10), .unset, .unset, .unset] [])) _
        refine XS.iload X0.here hx rfl (hb hby at_71) rfl ?_
        show Steps p.tables e below (s₁.setTop (mkF m 73 #[.val (.long q1), .second, .val (.long q2), .second, .val (.int p3), .val (.long v2), .second, .val (.long v7), .second, .val (.long v8), .second, .val (.int v10), .unset, .unset, .unset] [(.int p3)])) _
        refine XS.iconst X0.here hx rfl (hb hby at_73) ?_
        show Steps p.tables e below (s₁.setTop (mkF m 74 #[.val (.long q1), .second, .val (.long q2), .second, .val (.int p3), .val (.long v2), .second, .val (.long v7), .second, .val (.long v8), .second, .val (.int v10), .unset, .unset, .unset] [(.int (4 : Int32)), (.int p3)])) _
        refine XS.iand X0.here hx rfl (hb hby at_74) rfl ?_
        show Steps p.tables e below (s₁.setTop (mkF m 75 #[.val (.long q1), .second, .val (.long q2), .second, .val (.int p3), .val (.long v2), .second, .val (.long v7), .second, .val (.long v8), .second, .val (.int v10), .unset, .unset, .unset] [(.int (p3 &&& (4 : Int32)))])) _
        refine XS.ifNo X0.here hx rfl (hb hby at_75) rfl ((if0 _ _).trans (feq hb0_75).1) ?_
        show Steps p.tables e below (s₁.setTop (mkF m 78 #[.val (.long q1), .second, .val (.long q2), .second, .val (.int p3), .val (.long v2), .second, .val (.long v7), .second, .val (.long v8), .second, .val (.int v10), .unset, .unset, .unset] [])) _
        refine XS.iconst X0.here hx rfl (hb hby at_78) ?_
        show Steps p.tables e below (s₁.setTop (mkF m 79 #[.val (.long q1), .second, .val (.long q2), .second, .val (.int p3), .val (.long v2), .second, .val (.long v7), .second, .val (.long v8), .second, .val (.int v10), .unset, .unset, .unset] [(.int (1 : Int32))])) _
        refine XS.goto X0.here hx rfl (pc0 := 79) (pc' := 83) rfl (hb hby at_79) (by decide) (by decide) ?_
        exact k
    have pre14 : ∀ t, Steps p.tables e below (s₁.setTop (mkF m 85 #[.val (.long q1), .second, .val (.long q2), .second, .val (.int p3), .val (.long v2), .second, .val (.long v7), .second, .val (.long v8), .second, .val (.int v10), .val (.int v12), .unset, .unset] [])) t → Steps p.tables e below (s₁.setTop (entryFrame m #[(.long q1), (.long q2), (.int p3)] maxLocals)) t := by
      refine fun t k => pre13 t ?_
      show Steps p.tables e below (s₁.setTop (mkF m 83 #[.val (.long q1), .second, .val (.long q2), .second, .val (.int p3), .val (.long v2), .second, .val (.long v7), .second, .val (.long v8), .second, .val (.int v10), .unset, .unset, .unset] [(.int v12)])) _
      refine XS.istore X0.here hx rfl (hb hby at_83) rfl (l' := #[.val (.long q1), .second, .val (.long q2), .second, .val (.int p3), .val (.long v2), .second, .val (.long v7), .second, .val (.long v8), .second, .val (.int v10), .val (.int v12), .unset, .unset]) rfl ?_
      exact k
    have hd1 : v10 = (1 : Int32) ∨ v10 = (-1 : Int32) := by first | (rcases hj11 with q | q; exact Or.inl q.2; exact Or.inr q.2) | (rcases hj11 with q | q; exact Or.inr q.2; exact Or.inl q.2)
    have hd2 : v12 = (1 : Int32) ∨ v12 = (-1 : Int32) := by first | (rcases hj13 with q | q; exact Or.inl q.2; exact Or.inr q.2) | (rcases hj13 with q | q; exact Or.inr q.2; exact Or.inl q.2)
    obtain ⟨T15, h15, X15, e15, E15, A15, D15, -, st15⟩ := newO X0 hx hZ hown (hw _ (List.mem_of_getElem? (i := 1) rfl)) (hw _ (List.mem_of_getElem? (i := 2) rfl)) (hw _ (List.mem_of_getElem? (i := 3) rfl)) e0 (g := (mkF m 85 #[.val (.long q1), .second, .val (.long q2), .second, .val (.int p3), .val (.long v2), .second, .val (.long v7), .second, .val (.long v8), .second, .val (.int v10), .val (.int v12), .unset, .unset] [])) rfl (hb hby at_85) (by decide) (by decide)
    obtain ⟨b15, g15⟩ : ∃ z, z = h0.size := ⟨_, rfl⟩
    rw [← g15] at A15 D15 st15
    have g_b15 : n0 ≤ b15 := Nat.le_trans Z0 (Nat.le_of_eq g15.symm)
    have sz_b15 : h0.size ≤ b15 := Nat.le_trans (Nat.le_refl h0.size) (Nat.le_of_eq g15.symm)
    have pre16 : ∀ t, Steps p.tables e below (T15.setTop (mkF m 88 #[.val (.long q1), .second, .val (.long q2), .second, .val (.int p3), .val (.long v2), .second, .val (.long v7), .second, .val (.long v8), .second, .val (.int v10), .val (.int v12), .unset, .unset] [(.ref b15)])) t → Steps p.tables e below (s₁.setTop (entryFrame m #[(.long q1), (.long q2), (.int p3)] maxLocals)) t := fun t k => pre14 t (st15 _ k)
    have K15 : Keep h0 h15 [] := Keep.ext (Keep.refl h0 []) E15
    have f17 : Fld Z h15 b15 "com/example/crisp_haptics/crisphaptics/RotaryInput$Detent" "timeNs" "J" (.long (0 : Int64)) := D15 (Or.inr (hw _ (List.mem_of_getElem? (i := 16) rfl))) (ty := .long) (by decide)
    have f18 : Fld Z h15 b15 "com/example/crisp_haptics/crisphaptics/RotaryInput$Detent" "direction" "I" (.int (0 : Int32)) := D15 (Or.inr (hw _ (List.mem_of_getElem? (i := 18) rfl))) (ty := .int) (by decide)
    have pre19 : ∀ t, Steps p.tables e below (T15.setTop (mkF m 93 #[.val (.long q1), .second, .val (.long q2), .second, .val (.int p3), .val (.long v2), .second, .val (.long v7), .second, .val (.long v8), .second, .val (.int v10), .val (.int v12), .unset, .unset] [(.int v10), (.long v2), (.ref b15), (.ref b15)])) t → Steps p.tables e below (s₁.setTop (entryFrame m #[(.long q1), (.long q2), (.int p3)] maxLocals)) t := by
      refine fun t k => pre16 t ?_
      show Steps p.tables e below (T15.setTop (mkF m 88 #[.val (.long q1), .second, .val (.long q2), .second, .val (.int p3), .val (.long v2), .second, .val (.long v7), .second, .val (.long v8), .second, .val (.int v10), .val (.int v12), .unset, .unset] [(.ref b15)])) _
      refine XS.dup X15.here hx rfl (hb hby at_88) rfl rfl ?_
      show Steps p.tables e below (T15.setTop (mkF m 89 #[.val (.long q1), .second, .val (.long q2), .second, .val (.int p3), .val (.long v2), .second, .val (.long v7), .second, .val (.long v8), .second, .val (.int v10), .val (.int v12), .unset, .unset] [(.ref b15), (.ref b15)])) _
      refine XS.lload X15.here hx rfl (hb hby at_89) rfl ?_
      show Steps p.tables e below (T15.setTop (mkF m 91 #[.val (.long q1), .second, .val (.long q2), .second, .val (.int p3), .val (.long v2), .second, .val (.long v7), .second, .val (.long v8), .second, .val (.int v10), .val (.int v12), .unset, .unset] [(.long v2), (.ref b15), (.ref b15)])) _
      refine XS.iload X15.here hx rfl (hb hby at_91) rfl ?_
      exact k
    have Z20 : n0 ≤ h15.size := (Nat.le_trans Z0 E15.1)
    obtain ⟨_, _, ⟨T20, L20, k20, n20⟩, -, X20, ⟨Lc20, hQ20, l20, y20, z20⟩, st20⟩ := X15.specialBack hx (y := (⟨"com/example/crisp_haptics/crisphaptics/RotaryInput$Detent", "<init>", "(JI)V"⟩ : MethodName)) rfl hown (mvT hZ (hw _ (List.mem_of_getElem? (i := 4) rfl))) (mvT hZ (hw _ (List.mem_of_getElem? (i := 5) rfl))) (mvT hZ (hw _ (List.mem_of_getElem? (i := 6) rfl))) (by decide) (backOf (W := 1) (rm1 l Z a0 hw [] b15 v2 v10  h15 n0 Z20 A15 f17 f18 g_b15 (hpn) (hd1)) hZ (hw _ (List.mem_of_getElem? (i := 6) rfl)) (hw _ (List.mem_of_getElem? (i := 3) rfl)) (by decide) (by decide)) (g := (mkF m 93 #[.val (.long q1), .second, .val (.long q2), .second, .val (.int p3), .val (.long v2), .second, .val (.long v7), .second, .val (.long v8), .second, .val (.int v10), .val (.int v12), .unset, .unset] [(.int v10), (.long v2), (.ref b15), (.ref b15)])) rfl (by rw [hml]; rfl) (Steps.refl _) (a := b15) (argsL := [(.long v2), (.int v10)]) (rest := [(.ref b15)]) (lenOf pd0_0 rfl) rfl (by show 2 * 0 + _ ≤ _; exact Nat.le_of_eq rfl) (hb hby at_93) (fun _ _ => ⟨rfl, e15, (by decide : (0 + 1) + 0 ≤ _), (by decide : (0 + 2) + 0 ≤ _)⟩)
    dsimp only [Pt.U, Pt.locs, Pt.cells, Pt.slots] at X20 l20 y20 z20 st20 hQ20
    subst l20 y20 z20
    obtain ⟨rfl, Nq20, Kq20, f21, f22, hq20⟩ := hQ20
    have N20 := Fr.app N0 Nq20
    have pre23 : ∀ t, Steps p.tables e below (T20.setTop (mkF m 96 #[.val (.long q1), .second, .val (.long q2), .second, .val (.int p3), .val (.long v2), .second, .val (.long v7), .second, .val (.long v8), .second, .val (.int v10), .val (.int v12), .unset, .unset] [(.ref b15)])) t → Steps p.tables e below (s₁.setTop (entryFrame m #[(.long q1), (.long q2), (.int p3)] maxLocals)) t := fun t k => pre19 t (st20.trans k)
    have K20 : Keep h0 T20.heap [] := Keep.trans K15 Kq20 (allS (Or.inr sz_b15) all0)
    have f24 := A15.keep Kq20
    have pre25 : ∀ t, Steps p.tables e below (T20.setTop (mkF m 98 #[.val (.long q1), .second, .val (.long q2), .second, .val (.int p3), .val (.long v2), .second, .val (.long v7), .second, .val (.long v8), .second, .val (.int v10), .val (.int v12), .val (.ref b15), .unset] [])) t → Steps p.tables e below (s₁.setTop (entryFrame m #[(.long q1), (.long q2), (.int p3)] maxLocals)) t := by
      refine fun t k => pre23 t ?_
      show Steps p.tables e below (T20.setTop (mkF m 96 #[.val (.long q1), .second, .val (.long q2), .second, .val (.int p3), .val (.long v2), .second, .val (.long v7), .second, .val (.long v8), .second, .val (.int v10), .val (.int v12), .unset, .unset] [(.ref b15)])) _
      refine XS.astore X20.here hx rfl (hb hby at_96) rfl rfl (l' := #[.val (.long q1), .second, .val (.long q2), .second, .val (.int p3), .val (.long v2), .second, .val (.long v7), .second, .val (.long v8), .second, .val (.int v10), .val (.int v12), .val (.ref b15), .unset]) rfl ?_
      exact k
    obtain ⟨T26, h26, X26, e26, E26, A26, D26, -, st26⟩ := newO X20 hx hZ hown (hw _ (List.mem_of_getElem? (i := 1) rfl)) (hw _ (List.mem_of_getElem? (i := 2) rfl)) (hw _ (List.mem_of_getElem? (i := 3) rfl)) rfl (g := (mkF m 98 #[.val (.long q1), .second, .val (.long q2), .second, .val (.int p3), .val (.long v2), .second, .val (.long v7), .second, .val (.long v8), .second, .val (.int v10), .val (.int v12), .val (.ref b15), .unset] [])) rfl (hb hby at_98) (by decide) (by decide)
    obtain ⟨b26, g26⟩ : ∃ z, z = T20.heap.size := ⟨_, rfl⟩
    rw [← g26] at A26 D26 st26
    have g_b26 : n0 ≤ b26 := Nat.le_trans (Nat.le_trans Z20 Kq20.1) (Nat.le_of_eq g26.symm)
    have sz_b26 : h0.size ≤ b26 := Nat.le_trans (Nat.le_trans (Nat.le_trans (Nat.le_refl h0.size) E15.1) Kq20.1) (Nat.le_of_eq g26.symm)
    have ne27 : b15 ≠ b26 := Nat.ne_of_lt (Nat.lt_of_lt_of_le f24.lt (Nat.le_of_eq g26.symm))
    have pre28 : ∀ t, Steps p.tables e below (T26.setTop (mkF m 101 #[.val (.long q1), .second, .val (.long q2), .second, .val (.int p3), .val (.long v2), .second, .val (.long v7), .second, .val (.long v8), .second, .val (.int v10), .val (.int v12), .val (.ref b15), .unset] [(.ref b26)])) t → Steps p.tables e below (s₁.setTop (entryFrame m #[(.long q1), (.long q2), (.int p3)] maxLocals)) t := fun t k => pre25 t (st26 _ k)
    have f29 := f24.ext E26
    have f30 := f21.ext E26
    have f31 := f22.ext E26
    have K26 : Keep h0 h26 [] := Keep.ext K20 E26
    have f32 : Fld Z h26 b26 "com/example/crisp_haptics/crisphaptics/RotaryInput$Detent" "timeNs" "J" (.long (0 : Int64)) := D26 (Or.inr (hw _ (List.mem_of_getElem? (i := 16) rfl))) (ty := .long) (by decide)
    have f33 : Fld Z h26 b26 "com/example/crisp_haptics/crisphaptics/RotaryInput$Detent" "direction" "I" (.int (0 : Int32)) := D26 (Or.inr (hw _ (List.mem_of_getElem? (i := 18) rfl))) (ty := .int) (by decide)
    have pre34 : ∀ t, Steps p.tables e below (T26.setTop (mkF m 106 #[.val (.long q1), .second, .val (.long q2), .second, .val (.int p3), .val (.long v2), .second, .val (.long v7), .second, .val (.long v8), .second, .val (.int v10), .val (.int v12), .val (.ref b15), .unset] [(.int v12), (.long v8), (.ref b26), (.ref b26)])) t → Steps p.tables e below (s₁.setTop (entryFrame m #[(.long q1), (.long q2), (.int p3)] maxLocals)) t := by
      refine fun t k => pre28 t ?_
      show Steps p.tables e below (T26.setTop (mkF m 101 #[.val (.long q1), .second, .val (.long q2), .second, .val (.int p3), .val (.long v2), .second, .val (.long v7), .second, .val (.long v8), .second, .val (.int v10), .val (.int v12), .val (.ref b15), .unset] [(.ref b26)])) _
      refine XS.dup X26.here hx rfl (hb hby at_101) rfl rfl ?_
      show Steps p.tables e below (T26.setTop (mkF m 102 #[.val (.long q1), .second, .val (.long q2), .second, .val (.int p3), .val (.long v2), .second, .val (.long v7), .second, .val (.long v8), .second, .val (.int v10), .val (.int v12), .val (.ref b15), .unset] [(.ref b26), (.ref b26)])) _
      refine XS.lload X26.here hx rfl (hb hby at_102) rfl ?_
      show Steps p.tables e below (T26.setTop (mkF m 104 #[.val (.long q1), .second, .val (.long q2), .second, .val (.int p3), .val (.long v2), .second, .val (.long v7), .second, .val (.long v8), .second, .val (.int v10), .val (.int v12), .val (.ref b15), .unset] [(.long v8), (.ref b26), (.ref b26)])) _
      refine XS.iload X26.here hx rfl (hb hby at_104) rfl ?_
      exact k
    have Z35 : n0 ≤ h26.size := (Nat.le_trans (Nat.le_trans Z20 Kq20.1) E26.1)
    obtain ⟨_, _, ⟨T35, L35, k35, n35⟩, -, X35, ⟨Lc35, hQ35, l35, y35, z35⟩, st35⟩ := X26.specialBack hx (y := (⟨"com/example/crisp_haptics/crisphaptics/RotaryInput$Detent", "<init>", "(JI)V"⟩ : MethodName)) rfl hown (mvT hZ (hw _ (List.mem_of_getElem? (i := 4) rfl))) (mvT hZ (hw _ (List.mem_of_getElem? (i := 5) rfl))) (mvT hZ (hw _ (List.mem_of_getElem? (i := 6) rfl))) (by decide) (backOf (W := 1) (rm1 l Z a0 hw [] b26 v8 v12  h26 n0 Z35 A26 f32 f33 g_b26 (htn) (hd2)) hZ (hw _ (List.mem_of_getElem? (i := 6) rfl)) (hw _ (List.mem_of_getElem? (i := 3) rfl)) (by decide) (by decide)) (g := (mkF m 106 #[.val (.long q1), .second, .val (.long q2), .second, .val (.int p3), .val (.long v2), .second, .val (.long v7), .second, .val (.long v8), .second, .val (.int v10), .val (.int v12), .val (.ref b15), .unset] [(.int v12), (.long v8), (.ref b26), (.ref b26)])) rfl (by rw [hml]; rfl) (Steps.refl _) (a := b26) (argsL := [(.long v8), (.int v12)]) (rest := [(.ref b26)]) (lenOf pd0_0 rfl) rfl (by show 2 * 0 + _ ≤ _; exact Nat.le_of_eq rfl) (hb hby at_106) (fun _ _ => ⟨rfl, e26, (by decide : (((0 + 1) + 0) + 1) + 0 ≤ _), (by decide : (((0 + 2) + 0) + 2) + 0 ≤ _)⟩)
    dsimp only [Pt.U, Pt.locs, Pt.cells, Pt.slots] at X35 l35 y35 z35 st35 hQ35
    subst l35 y35 z35
    obtain ⟨rfl, Nq35, Kq35, f36, f37, hq35⟩ := hQ35
    have N35 := Fr.app N20 Nq35
    have pre38 : ∀ t, Steps p.tables e below (T35.setTop (mkF m 109 #[.val (.long q1), .second, .val (.long q2), .second, .val (.int p3), .val (.long v2), .second, .val (.long v7), .second, .val (.long v8), .second, .val (.int v10), .val (.int v12), .val (.ref b15), .unset] [(.ref b26)])) t → Steps p.tables e below (s₁.setTop (entryFrame m #[(.long q1), (.long q2), (.int p3)] maxLocals)) t := fun t k => pre34 t (st35.trans k)
    have K35 : Keep h0 T35.heap [] := Keep.trans K26 Kq35 (allS (Or.inr sz_b26) all0)
    have f39 := f29.keep Kq35
    have f40 := f30.keep Kq35 (by simp only [List.mem_cons, List.not_mem_nil, or_false, not_or]; exact ne27)
    have f41 := f31.keep Kq35 (by simp only [List.mem_cons, List.not_mem_nil, or_false, not_or]; exact ne27)
    have f42 := A26.keep Kq35
    have pre43 : ∀ t, Steps p.tables e below (T35.setTop (mkF m 115 #[.val (.long q1), .second, .val (.long q2), .second, .val (.int p3), .val (.long v2), .second, .val (.long v7), .second, .val (.long v8), .second, .val (.int v10), .val (.int v12), .val (.ref b15), .val (.ref b26)] [(.ref b15), (.ref b26)])) t → Steps p.tables e below (s₁.setTop (entryFrame m #[(.long q1), (.long q2), (.int p3)] maxLocals)) t := by
      refine fun t k => pre38 t ?_
      show Steps p.tables e below (T35.setTop (mkF m 109 #[.val (.long q1), .second, .val (.long q2), .second, .val (.int p3), .val (.long v2), .second, .val (.long v7), .second, .val (.long v8), .second, .val (.int v10), .val (.int v12), .val (.ref b15), .unset] [(.ref b26)])) _
      refine XS.astore X35.here hx rfl (hb hby at_109) rfl rfl (l' := #[.val (.long q1), .second, .val (.long q2), .second, .val (.int p3), .val (.long v2), .second, .val (.long v7), .second, .val (.long v8), .second, .val (.int v10), .val (.int v12), .val (.ref b15), .val (.ref b26)]) rfl ?_
      show Steps p.tables e below (T35.setTop (mkF m 111 #[.val (.long q1), .second, .val (.long q2), .second, .val (.int p3), .val (.long v2), .second, .val (.long v7), .second, .val (.long v8), .second, .val (.int v10), .val (.int v12), .val (.ref b15), .val (.ref b26)] [])) _
      refine XS.aload X35.here hx rfl (hb hby at_111) rfl rfl ?_
      show Steps p.tables e below (T35.setTop (mkF m 113 #[.val (.long q1), .second, .val (.long q2), .second, .val (.int p3), .val (.long v2), .second, .val (.long v7), .second, .val (.long v8), .second, .val (.int v10), .val (.int v12), .val (.ref b15), .val (.ref b26)] [(.ref b26)])) _
      refine XS.aload X35.here hx rfl (hb hby at_113) rfl rfl ?_
      exact k
    have Z44 : n0 ≤ T35.heap.size := (Nat.le_trans Z35 Kq35.1)
    obtain ⟨cq44, kq44, q44a, q44b, q44c⟩ := isOf hZ rfl f42
    obtain ⟨_, _, ⟨T44, L44, k44, n44⟩, -, X44, ⟨Lc44, hQ44, l44, y44, z44⟩, st44⟩ := X35.virtualBack hx (y := (⟨"com/example/crisp_haptics/crisphaptics/RotaryInput$Detent", "checkAfter", "(Lcom/example/crisp_haptics/crisphaptics/RotaryInput$Detent;)V"⟩ : MethodName)) (z := (⟨"com/example/crisp_haptics/crisphaptics/RotaryInput$Detent", "checkAfter", "(Lcom/example/crisp_haptics/crisphaptics/RotaryInput$Detent;)V"⟩ : MethodName)) hown (mvT hZ (hw _ (List.mem_of_getElem? (i := 19) rfl))) (mvT hZ (hw _ (List.mem_of_getElem? (i := 20) rfl))) (notFace_of_selects (args := #[]) (mvT hZ (hw _ (List.mem_of_getElem? (i := 22) rfl)))) (mvT hZ (hw _ (List.mem_of_getElem? (i := 22) rfl))) (mvT hZ (hw _ (List.mem_of_getElem? (i := 21) rfl))) (by decide) (backOf (W := 0) (rm4 l Z a0 hw [] b26 b15 v8 v2 T35.heap n0 Z44 f36 f40 (hpt)) hZ (hw _ (List.mem_of_getElem? (i := 23) rfl)) (hw _ (List.mem_of_getElem? (i := 3) rfl)) (by decide) (by decide)) q44a q44c (g := (mkF m 115 #[.val (.long q1), .second, .val (.long q2), .second, .val (.int p3), .val (.long v2), .second, .val (.long v7), .second, .val (.long v8), .second, .val (.int v10), .val (.int v12), .val (.ref b15), .val (.ref b26)] [(.ref b15), (.ref b26)])) rfl (by rw [hml]; rfl) (Steps.refl _) (argsL := [(.ref b15)]) (rest := []) (lenOf pd0_1 rfl) rfl (by show 2 * 0 + _ ≤ _; exact Nat.le_of_eq rfl) (hb hby at_115) (fun _ _ => ⟨rfl, rfl, (by decide : ((((0 + 1) + 0) + 1) + 0) + 0 ≤ _), (by decide : ((((0 + 2) + 0) + 2) + 0) + 0 ≤ _)⟩)
    dsimp only [Pt.U, Pt.locs, Pt.cells, Pt.slots] at X44 l44 y44 z44 st44 hQ44
    subst l44 y44 z44
    obtain ⟨rfl, Nq44, ehq44, hq44⟩ := hQ44
    have N44 := Fr.app N35 Nq44
    have pre45 : ∀ t, Steps p.tables e below (T44.setTop (mkF m 118 #[.val (.long q1), .second, .val (.long q2), .second, .val (.int p3), .val (.long v2), .second, .val (.long v7), .second, .val (.long v8), .second, .val (.int v10), .val (.int v12), .val (.ref b15), .val (.ref b26)] [])) t → Steps p.tables e below (s₁.setTop (entryFrame m #[(.long q1), (.long q2), (.int p3)] maxLocals)) t := fun t k => pre43 t (st44.trans k)
    have pre46 : ∀ t, Steps p.tables e below (T44.setTop (mkF m 120 #[.val (.long q1), .second, .val (.long q2), .second, .val (.int p3), .val (.long v2), .second, .val (.long v7), .second, .val (.long v8), .second, .val (.int v10), .val (.int v12), .val (.ref b15), .val (.ref b26)] [(.ref b26)])) t → Steps p.tables e below (s₁.setTop (entryFrame m #[(.long q1), (.long q2), (.int p3)] maxLocals)) t := by
      refine fun t k => pre45 t ?_
      show Steps p.tables e below (T44.setTop (mkF m 118 #[.val (.long q1), .second, .val (.long q2), .second, .val (.int p3), .val (.long v2), .second, .val (.long v7), .second, .val (.long v8), .second, .val (.int v10), .val (.int v12), .val (.ref b15), .val (.ref b26)] [])) _
      refine XS.aload X44.here hx rfl (hb hby at_118) rfl rfl ?_
      exact k
    have Z47 : n0 ≤ T35.heap.size := (Nat.le_trans Z35 Kq35.1)
    obtain ⟨cq47, kq47, q47a, q47b, q47c⟩ := isOf hZ ehq44 f42
    obtain ⟨_, _, ⟨T47, L47, k47, n47⟩, -, X47, ⟨Lc47, hQ47, l47, y47, z47⟩, st47⟩ := X44.virtualBack hx (y := (⟨"com/example/crisp_haptics/crisphaptics/RotaryInput$Detent", "timeNs", "()J"⟩ : MethodName)) (z := (⟨"com/example/crisp_haptics/crisphaptics/RotaryInput$Detent", "timeNs", "()J"⟩ : MethodName)) hown (mvT hZ (hw _ (List.mem_of_getElem? (i := 24) rfl))) (mvT hZ (hw _ (List.mem_of_getElem? (i := 25) rfl))) (notFace_of_selects (args := #[]) (mvT hZ (hw _ (List.mem_of_getElem? (i := 27) rfl)))) (mvT hZ (hw _ (List.mem_of_getElem? (i := 27) rfl))) (mvT hZ (hw _ (List.mem_of_getElem? (i := 26) rfl))) (by decide) (backOf (W := 0) (rm5 l Z a0 hw [] b26 v8 T35.heap n0 Z47 f36) hZ (hw _ (List.mem_of_getElem? (i := 28) rfl)) (hw _ (List.mem_of_getElem? (i := 3) rfl)) (by decide) (by decide)) q47a q47c (g := (mkF m 120 #[.val (.long q1), .second, .val (.long q2), .second, .val (.int p3), .val (.long v2), .second, .val (.long v7), .second, .val (.long v8), .second, .val (.int v10), .val (.int v12), .val (.ref b15), .val (.ref b26)] [(.ref b26)])) rfl (by rw [hml]; rfl) (Steps.refl _) (argsL := []) (rest := []) (lenOf pd0_2 rfl) rfl (by show 2 * 0 + _ ≤ _; exact Nat.le_of_eq rfl) (hb hby at_120) (fun _ _ => ⟨rfl, ehq44, (by decide : (((((0 + 1) + 0) + 1) + 0) + 0) + 0 ≤ _), (by decide : (((((0 + 2) + 0) + 2) + 0) + 0) + 0 ≤ _)⟩)
    dsimp only [Pt.U, Pt.locs, Pt.cells, Pt.slots] at X47 l47 y47 z47 st47 hQ47
    subst l47 y47 z47
    obtain ⟨r48, rfl, Nq47, ehq47, hq47⟩ := hQ47
    have N47 := Fr.app N44 Nq47
    have pre49 : ∀ t, Steps p.tables e below (T47.setTop (mkF m 123 #[.val (.long q1), .second, .val (.long q2), .second, .val (.int p3), .val (.long v2), .second, .val (.long v7), .second, .val (.long v8), .second, .val (.int v10), .val (.int v12), .val (.ref b15), .val (.ref b26)] [(.long r48)])) t → Steps p.tables e below (s₁.setTop (entryFrame m #[(.long q1), (.long q2), (.int p3)] maxLocals)) t := fun t k => pre46 t (st47.trans k)
    have hc126 : r48 = v8 := by exact hq47
    have pre50 : ∀ t, Steps p.tables e below (T47.setTop (mkF m 129 #[.val (.long q1), .second, .val (.long q2), .second, .val (.int p3), .val (.long v2), .second, .val (.long v7), .second, .val (.long v8), .second, .val (.int v10), .val (.int v12), .val (.ref b15), .val (.ref b26)] [])) t → Steps p.tables e below (s₁.setTop (entryFrame m #[(.long q1), (.long q2), (.int p3)] maxLocals)) t := by
      refine fun t k => pre49 t ?_
      show Steps p.tables e below (T47.setTop (mkF m 123 #[.val (.long q1), .second, .val (.long q2), .second, .val (.int p3), .val (.long v2), .second, .val (.long v7), .second, .val (.long v8), .second, .val (.int v10), .val (.int v12), .val (.ref b15), .val (.ref b26)] [(.long r48)])) _
      refine XS.lload X47.here hx rfl (hb hby at_123) rfl ?_
      show Steps p.tables e below (T47.setTop (mkF m 125 #[.val (.long q1), .second, .val (.long q2), .second, .val (.int p3), .val (.long v2), .second, .val (.long v7), .second, .val (.long v8), .second, .val (.int v10), .val (.int v12), .val (.ref b15), .val (.ref b26)] [(.long v8), (.long r48)])) _
      refine XS.lcmp X47.here hx rfl (hb hby at_125) rfl ?_
      show Steps p.tables e below (T47.setTop (mkF m 126 #[.val (.long q1), .second, .val (.long q2), .second, .val (.int p3), .val (.long v2), .second, .val (.long v7), .second, .val (.long v8), .second, .val (.int v10), .val (.int v12), .val (.ref b15), .val (.ref b26)] [(.int (lcmpW r48 v8))])) _
      refine XS.ifNo X47.here hx rfl (hb hby at_126) rfl (jteq hc126).2 ?_
      exact k
    have pre51 : ∀ t, Steps p.tables e below (T47.setTop (mkF m 131 #[.val (.long q1), .second, .val (.long q2), .second, .val (.int p3), .val (.long v2), .second, .val (.long v7), .second, .val (.long v8), .second, .val (.int v10), .val (.int v12), .val (.ref b15), .val (.ref b26)] [(.ref b26)])) t → Steps p.tables e below (s₁.setTop (entryFrame m #[(.long q1), (.long q2), (.int p3)] maxLocals)) t := by
      refine fun t k => pre50 t ?_
      show Steps p.tables e below (T47.setTop (mkF m 129 #[.val (.long q1), .second, .val (.long q2), .second, .val (.int p3), .val (.long v2), .second, .val (.long v7), .second, .val (.long v8), .second, .val (.int v10), .val (.int v12), .val (.ref b15), .val (.ref b26)] [])) _
      refine XS.aload X47.here hx rfl (hb hby at_129) rfl rfl ?_
      exact k
    have Z52 : n0 ≤ T35.heap.size := (Nat.le_trans Z35 Kq35.1)
    obtain ⟨cq52, kq52, q52a, q52b, q52c⟩ := isOf hZ ehq47 f42
    obtain ⟨_, _, ⟨T52, L52, k52, n52⟩, -, X52, ⟨Lc52, hQ52, l52, y52, z52⟩, st52⟩ := X47.virtualBack hx (y := (⟨"com/example/crisp_haptics/crisphaptics/RotaryInput$Detent", "direction", "()I"⟩ : MethodName)) (z := (⟨"com/example/crisp_haptics/crisphaptics/RotaryInput$Detent", "direction", "()I"⟩ : MethodName)) hown (mvT hZ (hw _ (List.mem_of_getElem? (i := 29) rfl))) (mvT hZ (hw _ (List.mem_of_getElem? (i := 30) rfl))) (notFace_of_selects (args := #[]) (mvT hZ (hw _ (List.mem_of_getElem? (i := 32) rfl)))) (mvT hZ (hw _ (List.mem_of_getElem? (i := 32) rfl))) (mvT hZ (hw _ (List.mem_of_getElem? (i := 31) rfl))) (by decide) (backOf (W := 0) (rm6 l Z a0 hw [] b26 v12 T35.heap n0 Z52 f37) hZ (hw _ (List.mem_of_getElem? (i := 33) rfl)) (hw _ (List.mem_of_getElem? (i := 3) rfl)) (by decide) (by decide)) q52a q52c (g := (mkF m 131 #[.val (.long q1), .second, .val (.long q2), .second, .val (.int p3), .val (.long v2), .second, .val (.long v7), .second, .val (.long v8), .second, .val (.int v10), .val (.int v12), .val (.ref b15), .val (.ref b26)] [(.ref b26)])) rfl (by rw [hml]; rfl) (Steps.refl _) (argsL := []) (rest := []) (lenOf pd0_3 rfl) rfl (by show 2 * 0 + _ ≤ _; exact Nat.le_of_eq rfl) (hb hby at_131) (fun _ _ => ⟨rfl, ehq47, (by decide : ((((((0 + 1) + 0) + 1) + 0) + 0) + 0) + 0 ≤ _), (by decide : ((((((0 + 2) + 0) + 2) + 0) + 0) + 0) + 0 ≤ _)⟩)
    dsimp only [Pt.U, Pt.locs, Pt.cells, Pt.slots] at X52 l52 y52 z52 st52 hQ52
    subst l52 y52 z52
    obtain ⟨r53, rfl, Nq52, ehq52, hq52⟩ := hQ52
    have N52 := Fr.app N47 Nq52
    have pre54 : ∀ t, Steps p.tables e below (T52.setTop (mkF m 134 #[.val (.long q1), .second, .val (.long q2), .second, .val (.int p3), .val (.long v2), .second, .val (.long v7), .second, .val (.long v8), .second, .val (.int v10), .val (.int v12), .val (.ref b15), .val (.ref b26)] [(.int r53)])) t → Steps p.tables e below (s₁.setTop (entryFrame m #[(.long q1), (.long q2), (.int p3)] maxLocals)) t := fun t k => pre51 t (st52.trans k)
    have hc136 : r53 = v12 := by exact hq52
    have pre55 : ∀ t, Steps p.tables e below (T52.setTop (mkF m 139 #[.val (.long q1), .second, .val (.long q2), .second, .val (.int p3), .val (.long v2), .second, .val (.long v7), .second, .val (.long v8), .second, .val (.int v10), .val (.int v12), .val (.ref b15), .val (.ref b26)] [])) t → Steps p.tables e below (s₁.setTop (entryFrame m #[(.long q1), (.long q2), (.int p3)] maxLocals)) t := by
      refine fun t k => pre54 t ?_
      show Steps p.tables e below (T52.setTop (mkF m 134 #[.val (.long q1), .second, .val (.long q2), .second, .val (.int p3), .val (.long v2), .second, .val (.long v7), .second, .val (.long v8), .second, .val (.int v10), .val (.int v12), .val (.ref b15), .val (.ref b26)] [(.int r53)])) _
      refine XS.iload X52.here hx rfl (hb hby at_134) rfl ?_
      show Steps p.tables e below (T52.setTop (mkF m 136 #[.val (.long q1), .second, .val (.long q2), .second, .val (.int p3), .val (.long v2), .second, .val (.long v7), .second, .val (.long v8), .second, .val (.int v10), .val (.int v12), .val (.ref b15), .val (.ref b26)] [(.int v12), (.int r53)])) _
      refine XS.icmpNo X52.here hx rfl (hb hby at_136) rfl (teq hc136).2 ?_
      exact k
    have pre56 : ∀ t, Steps p.tables e below (T52.setTop (mkF m 141 #[.val (.long q1), .second, .val (.long q2), .second, .val (.int p3), .val (.long v2), .second, .val (.long v7), .second, .val (.long v8), .second, .val (.int v10), .val (.int v12), .val (.ref b15), .val (.ref b26)] [(.ref b15)])) t → Steps p.tables e below (s₁.setTop (entryFrame m #[(.long q1), (.long q2), (.int p3)] maxLocals)) t := by
      refine fun t k => pre55 t ?_
      show Steps p.tables e below (T52.setTop (mkF m 139 #[.val (.long q1), .second, .val (.long q2), .second, .val (.int p3), .val (.long v2), .second, .val (.long v7), .second, .val (.long v8), .second, .val (.int v10), .val (.int v12), .val (.ref b15), .val (.ref b26)] [])) _
      refine XS.aload X52.here hx rfl (hb hby at_139) rfl rfl ?_
      exact k
    have Z57 : n0 ≤ T35.heap.size := (Nat.le_trans Z35 Kq35.1)
    obtain ⟨cq57, kq57, q57a, q57b, q57c⟩ := isOf hZ ehq52 f39
    obtain ⟨_, _, ⟨T57, L57, k57, n57⟩, -, X57, ⟨Lc57, hQ57, l57, y57, z57⟩, st57⟩ := X52.virtualBack hx (y := (⟨"com/example/crisp_haptics/crisphaptics/RotaryInput$Detent", "timeNs", "()J"⟩ : MethodName)) (z := (⟨"com/example/crisp_haptics/crisphaptics/RotaryInput$Detent", "timeNs", "()J"⟩ : MethodName)) hown (mvT hZ (hw _ (List.mem_of_getElem? (i := 24) rfl))) (mvT hZ (hw _ (List.mem_of_getElem? (i := 25) rfl))) (notFace_of_selects (args := #[]) (mvT hZ (hw _ (List.mem_of_getElem? (i := 27) rfl)))) (mvT hZ (hw _ (List.mem_of_getElem? (i := 27) rfl))) (mvT hZ (hw _ (List.mem_of_getElem? (i := 26) rfl))) (by decide) (backOf (W := 0) (rm5 l Z a0 hw [] b15 v2 T35.heap n0 Z57 f40) hZ (hw _ (List.mem_of_getElem? (i := 28) rfl)) (hw _ (List.mem_of_getElem? (i := 3) rfl)) (by decide) (by decide)) q57a q57c (g := (mkF m 141 #[.val (.long q1), .second, .val (.long q2), .second, .val (.int p3), .val (.long v2), .second, .val (.long v7), .second, .val (.long v8), .second, .val (.int v10), .val (.int v12), .val (.ref b15), .val (.ref b26)] [(.ref b15)])) rfl (by rw [hml]; rfl) (Steps.refl _) (argsL := []) (rest := []) (lenOf pd0_2 rfl) rfl (by show 2 * 0 + _ ≤ _; exact Nat.le_of_eq rfl) (hb hby at_141) (fun _ _ => ⟨rfl, ehq52, (by decide : (((((((0 + 1) + 0) + 1) + 0) + 0) + 0) + 0) + 0 ≤ _), (by decide : (((((((0 + 2) + 0) + 2) + 0) + 0) + 0) + 0) + 0 ≤ _)⟩)
    dsimp only [Pt.U, Pt.locs, Pt.cells, Pt.slots] at X57 l57 y57 z57 st57 hQ57
    subst l57 y57 z57
    obtain ⟨r58, rfl, Nq57, ehq57, hq57⟩ := hQ57
    have N57 := Fr.app N52 Nq57
    have pre59 : ∀ t, Steps p.tables e below (T57.setTop (mkF m 144 #[.val (.long q1), .second, .val (.long q2), .second, .val (.int p3), .val (.long v2), .second, .val (.long v7), .second, .val (.long v8), .second, .val (.int v10), .val (.int v12), .val (.ref b15), .val (.ref b26)] [(.long r58)])) t → Steps p.tables e below (s₁.setTop (entryFrame m #[(.long q1), (.long q2), (.int p3)] maxLocals)) t := fun t k => pre56 t (st57.trans k)
    have hc147 : r58 = v2 := by exact hq57
    have pre60 : ∀ t, Steps p.tables e below (T57.setTop (mkF m 150 #[.val (.long q1), .second, .val (.long q2), .second, .val (.int p3), .val (.long v2), .second, .val (.long v7), .second, .val (.long v8), .second, .val (.int v10), .val (.int v12), .val (.ref b15), .val (.ref b26)] [])) t → Steps p.tables e below (s₁.setTop (entryFrame m #[(.long q1), (.long q2), (.int p3)] maxLocals)) t := by
      refine fun t k => pre59 t ?_
      show Steps p.tables e below (T57.setTop (mkF m 144 #[.val (.long q1), .second, .val (.long q2), .second, .val (.int p3), .val (.long v2), .second, .val (.long v7), .second, .val (.long v8), .second, .val (.int v10), .val (.int v12), .val (.ref b15), .val (.ref b26)] [(.long r58)])) _
      refine XS.lload X57.here hx rfl (hb hby at_144) rfl ?_
      show Steps p.tables e below (T57.setTop (mkF m 146 #[.val (.long q1), .second, .val (.long q2), .second, .val (.int p3), .val (.long v2), .second, .val (.long v7), .second, .val (.long v8), .second, .val (.int v10), .val (.int v12), .val (.ref b15), .val (.ref b26)] [(.long v2), (.long r58)])) _
      refine XS.lcmp X57.here hx rfl (hb hby at_146) rfl ?_
      show Steps p.tables e below (T57.setTop (mkF m 147 #[.val (.long q1), .second, .val (.long q2), .second, .val (.int p3), .val (.long v2), .second, .val (.long v7), .second, .val (.long v8), .second, .val (.int v10), .val (.int v12), .val (.ref b15), .val (.ref b26)] [(.int (lcmpW r58 v2))])) _
      refine XS.ifNo X57.here hx rfl (hb hby at_147) rfl (jteq hc147).2 ?_
      exact k
    have pre61 : ∀ t, Steps p.tables e below (T57.setTop (mkF m 152 #[.val (.long q1), .second, .val (.long q2), .second, .val (.int p3), .val (.long v2), .second, .val (.long v7), .second, .val (.long v8), .second, .val (.int v10), .val (.int v12), .val (.ref b15), .val (.ref b26)] [(.ref b15)])) t → Steps p.tables e below (s₁.setTop (entryFrame m #[(.long q1), (.long q2), (.int p3)] maxLocals)) t := by
      refine fun t k => pre60 t ?_
      show Steps p.tables e below (T57.setTop (mkF m 150 #[.val (.long q1), .second, .val (.long q2), .second, .val (.int p3), .val (.long v2), .second, .val (.long v7), .second, .val (.long v8), .second, .val (.int v10), .val (.int v12), .val (.ref b15), .val (.ref b26)] [])) _
      refine XS.aload X57.here hx rfl (hb hby at_150) rfl rfl ?_
      exact k
    have Z62 : n0 ≤ T35.heap.size := (Nat.le_trans Z35 Kq35.1)
    obtain ⟨cq62, kq62, q62a, q62b, q62c⟩ := isOf hZ ehq57 f39
    obtain ⟨_, _, ⟨T62, L62, k62, n62⟩, -, X62, ⟨Lc62, hQ62, l62, y62, z62⟩, st62⟩ := X57.virtualBack hx (y := (⟨"com/example/crisp_haptics/crisphaptics/RotaryInput$Detent", "direction", "()I"⟩ : MethodName)) (z := (⟨"com/example/crisp_haptics/crisphaptics/RotaryInput$Detent", "direction", "()I"⟩ : MethodName)) hown (mvT hZ (hw _ (List.mem_of_getElem? (i := 29) rfl))) (mvT hZ (hw _ (List.mem_of_getElem? (i := 30) rfl))) (notFace_of_selects (args := #[]) (mvT hZ (hw _ (List.mem_of_getElem? (i := 32) rfl)))) (mvT hZ (hw _ (List.mem_of_getElem? (i := 32) rfl))) (mvT hZ (hw _ (List.mem_of_getElem? (i := 31) rfl))) (by decide) (backOf (W := 0) (rm6 l Z a0 hw [] b15 v10 T35.heap n0 Z62 f41) hZ (hw _ (List.mem_of_getElem? (i := 33) rfl)) (hw _ (List.mem_of_getElem? (i := 3) rfl)) (by decide) (by decide)) q62a q62c (g := (mkF m 152 #[.val (.long q1), .second, .val (.long q2), .second, .val (.int p3), .val (.long v2), .second, .val (.long v7), .second, .val (.long v8), .second, .val (.int v10), .val (.int v12), .val (.ref b15), .val (.ref b26)] [(.ref b15)])) rfl (by rw [hml]; rfl) (Steps.refl _) (argsL := []) (rest := []) (lenOf pd0_3 rfl) rfl (by show 2 * 0 + _ ≤ _; exact Nat.le_of_eq rfl) (hb hby at_152) (fun _ _ => ⟨rfl, ehq57, (by decide : ((((((((0 + 1) + 0) + 1) + 0) + 0) + 0) + 0) + 0) + 0 ≤ _), (by decide : ((((((((0 + 2) + 0) + 2) + 0) + 0) + 0) + 0) + 0) + 0 ≤ _)⟩)
    dsimp only [Pt.U, Pt.locs, Pt.cells, Pt.slots] at X62 l62 y62 z62 st62 hQ62
    subst l62 y62 z62
    obtain ⟨r63, rfl, Nq62, ehq62, hq62⟩ := hQ62
    have N62 := Fr.app N57 Nq62
    have pre64 : ∀ t, Steps p.tables e below (T62.setTop (mkF m 155 #[.val (.long q1), .second, .val (.long q2), .second, .val (.int p3), .val (.long v2), .second, .val (.long v7), .second, .val (.long v8), .second, .val (.int v10), .val (.int v12), .val (.ref b15), .val (.ref b26)] [(.int r63)])) t → Steps p.tables e below (s₁.setTop (entryFrame m #[(.long q1), (.long q2), (.int p3)] maxLocals)) t := fun t k => pre61 t (st62.trans k)
    have hc157 : r63 = v10 := by exact hq62
    have pre65 : ∀ t, Steps p.tables e below (T62.setTop (mkF m 160 #[.val (.long q1), .second, .val (.long q2), .second, .val (.int p3), .val (.long v2), .second, .val (.long v7), .second, .val (.long v8), .second, .val (.int v10), .val (.int v12), .val (.ref b15), .val (.ref b26)] [])) t → Steps p.tables e below (s₁.setTop (entryFrame m #[(.long q1), (.long q2), (.int p3)] maxLocals)) t := by
      refine fun t k => pre64 t ?_
      show Steps p.tables e below (T62.setTop (mkF m 155 #[.val (.long q1), .second, .val (.long q2), .second, .val (.int p3), .val (.long v2), .second, .val (.long v7), .second, .val (.long v8), .second, .val (.int v10), .val (.int v12), .val (.ref b15), .val (.ref b26)] [(.int r63)])) _
      refine XS.iload X62.here hx rfl (hb hby at_155) rfl ?_
      show Steps p.tables e below (T62.setTop (mkF m 157 #[.val (.long q1), .second, .val (.long q2), .second, .val (.int p3), .val (.long v2), .second, .val (.long v7), .second, .val (.long v8), .second, .val (.int v10), .val (.int v12), .val (.ref b15), .val (.ref b26)] [(.int v10), (.int r63)])) _
      refine XS.icmpNo X62.here hx rfl (hb hby at_157) rfl (teq hc157).2 ?_
      exact k
    obtain ⟨fs, hr, hrun, hended, hW, hsame⟩ := X62.leave (v := some (.int (1 : Int32))) (fun h => by rw [Bd.returns] at h; cases h)
    refine ⟨_, _, pre65 _ ?_, hrun, hended, _, _, rfl, ?_, ⟨_, rfl⟩, hW, hsame.mono (by decide) (by decide)⟩
    · skip
      show Steps p.tables e below (T62.setTop (mkF m 160 #[.val (.long q1), .second, .val (.long q2), .second, .val (.int p3), .val (.long v2), .second, .val (.long v7), .second, .val (.long v8), .second, .val (.int v10), .val (.int v12), .val (.ref b15), .val (.ref b26)] [])) _
      refine XS.iconst X62.here hx rfl (hb hby at_160) ?_
      show Steps p.tables e below (T62.setTop (mkF m 161 #[.val (.long q1), .second, .val (.long q2), .second, .val (.int p3), .val (.long v2), .second, .val (.long v7), .second, .val (.long v8), .second, .val (.int v10), .val (.int v12), .val (.ref b15), .val (.ref b26)] [(.int (1 : Int32))])) _
      refine XS.goto X62.here hx rfl (pc0 := 161) (pc' := 165) rfl (hb hby at_161) (by decide) (by decide) ?_
      show Steps p.tables e below (T62.setTop (mkF m 165 #[.val (.long q1), .second, .val (.long q2), .second, .val (.int p3), .val (.long v2), .second, .val (.long v7), .second, .val (.long v8), .second, .val (.int v10), .val (.int v12), .val (.ref b15), .val (.ref b26)] [(.int (1 : Int32))])) _
      exact retN X62 hx (t := .boolean) Bd.returns (by simp) (hb hby at_165) hr
    · show Q0 Z q1 q2 p3 h0 n0 _ T62.heap _
      rw [ehq62]
      exact ⟨rfl, N62⟩
set_option maxRecDepth 65536 in
set_option maxHeartbeats 40000000 in
theorem comes_1 {Post : Tables → Env → Array Value → State → Outcome → State → Prop} (hpost : ∀ tb e args s v u, (limb_1_1.after args s (.returned v) u = true ∧ limb_1_2.after args s (.returned v) u = true ∧ True) → FrameEnd s (.returned v) u (Jvm.fieldLocs frame_1_writes args s ++ Jvm.arrayLocs frame_1_arrays args s ++ Jvm.staticLocs frame_1_statics s) 16 128 → Post tb e args s (.returned v) u) :
    ArmFor flags0 classFile x code maxLocals ret World_1 tables_1 room_1 Calls_1 rest_1 Pre_1 Post := by
  intro l hfl _ _ p e ha hc hk s m args below hf hA hF happ hP
  obtain ⟨hcalls, hrest, hpre⟩ := hP
  obtain ⟨-, -, -, hnamed, -, -, -, hat⟩ := (Spec.applies_iff hf).mp happ
  obtain ⟨hg, hn⟩ := and_e (Cond.before_iff.mp (show (Jvm.Cond.and given_1 narrow_1).before args s = true from hpre))
  obtain ⟨k0, g0⟩ := and_e hg
  obtain ⟨k1, g1⟩ := and_e g0
  obtain ⟨k2, g2⟩ := and_e g1
  obtain ⟨w0, w1, w2, rfl⟩ : ∃ w0 w1 w2 : Value, args = #[w0, w1, w2] := by
    have hs : args.size = 3 := by simpa [Cond.value, given_1] using k0
    obtain ⟨L⟩ := args
    match L, hs with
    | [w0, w1, w2], _ => exact ⟨w0, w1, w2, rfl⟩
  have hw := fun d (hd : d ∈ tables_1) => atoms_spec (ws := Jvm.Cond.code x code maxLocals ret :: tables_1) hat d (List.mem_cons_of_mem _ hd)
  have hfit : Fit s := fun {y c} hc i hi => by
    obtain ⟨ha, rfl⟩ := Array.getElem?_eq_some_iff.mp hc
    have q := List.all_eq_true.mp ((Array.all_eq_true_iff_forall_mem.mp hF) _ (Array.getElem_mem ha)) i (List.mem_range.mpr hi)
    simpa [Array.getElem?_eq_getElem hi] using q
  obtain ⟨i0, ei0⟩ := isL_v k1
  obtain rfl : w0 = (.long i0) := Option.some.inj ei0
  obtain ⟨i1, ei1⟩ := isL_v k2
  obtain rfl : w1 = (.long i1) := Option.some.inj ei1
  obtain ⟨i2, ei2⟩ := is_v g2
  obtain rfl : w2 = (.int i2) := Option.some.inj ei2
  obtain ⟨n, o, h1, h2, h3, _, L, rfl, ⟨rfl, N⟩, hq⟩ := rm0 l s _ hw tables_1 i0 i1 i2  s.heap s.heap.size (Nat.le_refl _)  p e ha hc hk s m _ below hf ((Spec.applies_iff_loose hf).mp happ).1 ⟨rfl, State.Warmed39.refl s, rfl⟩ trivial
  refine ⟨n, _, h1, h2, h3, hpost _ _ _ _ _ _ ⟨Cond.after_iff.mpr rfl, Cond.after_iff.mpr (eq_i res_at (Term.int_eval (1)) rfl), trivial⟩ ⟨hq.1, hq.2.1, (hq.2.2.sift fun y hy => Or.inr (N y hy)).mono (by decide) (by decide)⟩⟩
theorem main_1_1 : Claimed_1_1 := comes_1 fun _ _ _ _ _ _ h hF => ⟨h.1, hF⟩
theorem main_1_2 : Claimed_1_2 := comes_1 fun _ _ _ _ _ _ h hF => ⟨h.2.1, hF⟩
end Jvm.Pilot.@@N@@
namespace Jvm.Pilot.@@N@@
open Jvm Jvm.ClassFile Sem Op Lib Jvm.Free Jvm.Stand Jvm.Pilot.@@N@@.Jvm.D
/-! MADE BY PROGRAM (witnessworld.py) out of the Statement's table words and the real class files: 10 classes; the members and pool entries that the words name. The judged class is class 1, her method 1. -/
namespace start1
open Jvm.ClassFile
def u (s : String) : CpInfo := .utf8 (stringToUtf16 s)
/-- a pool by its gaps: so many unusable entries, then the entry; so many at the end -/
def gap : Nat → List CpInfo → List CpInfo
  | 0, r => r
  | n + 1, r => .unusable :: gap n r
def poolList (es : List (Nat × CpInfo)) (last : Nat) : List CpInfo := es.foldr (fun e r => gap e.1 (e.2 :: r)) (gap last [])
def pool (es : List (Nat × CpInfo)) (last : Nat) : Array CpInfo := ⟨poolList es last⟩
def fileOf (pool : Array CpInfo) (this : Nat) (attrs : Array Attribute := #[]) (ms : Array MethodInfo := #[]) (fl : Nat := 33) (sup : Nat := 0) (ifs : Array Nat := #[]) (fds : Array FieldInfo := #[]) : ClassFile where
  minorVersion := 0
  majorVersion := 65
  constantPool := pool
  accessFlags := fl
  thisClass := this
  superClass := sup
  interfaces := ifs
  fields := fds
  methods := ms
  attributes := attrs
def plain (name : String) (sup : Option ClassId) : Class where
  name := name
  kind := .ordinary
  loader := none
  accessFlags := 33
  super := sup
  interfaces := #[]
  cf := none
  fields := #[]
  methods := #[]
  instanceTypes := #[]
  staticTypes := #[]
  resolved := #[]
  callSites := []
  init := .initialized
  statics := none
  mirror := none

def pool0 : Array CpInfo := pool [(5, u "<init>"), (0, u "()V"), (1, .class_ 10), (1, u "java/lang/Object")] 113

def k0c0 : Code := { maxStack := 0, maxLocals := 1, code := object_method_1_code, exceptionTable := #[], attributes := #[] }
def k0m0 : Method := { name := "<init>", desc := "()V", sig := { parameters := [], returnType := none }, accessFlags := 1, code := some k0c0 }
/-- java/lang/Object -/
def k0 : Class := { plain "java/lang/Object" none with
  accessFlags := 33
  interfaces := #[]
  cf := some (fileOf pool0 8 #[] #[{ accessFlags := 1, nameIndex := 5, descriptorIndex := 6, attributes := #[] }] 33 0 #[] #[])
  fields := #[]
  methods := #[k0m0]
  instanceTypes := #[]
  staticTypes := #[]
  resolved := Array.replicate 124 none
  statics := none }

def pool1 : Array CpInfo := pool [(2, .class_ 4), (1, u "java/lang/Object"), (0, u "<init>"), (0, u "()V"), (2, .long 9223372036854775807), (1, .class_ 12), (0, u "com/example/crisp_haptics/crisphaptics/RotaryInput$Detent"), (0, .methodref 11 14), (0, .nameAndType 5 15), (0, u "(JI)V"), (0, .methodref 11 17), (0, .nameAndType 18 19), (0, u "checkAfter"), (0, u "(Lcom/example/crisp_haptics/crisphaptics/RotaryInput$Detent;)V"), (0, .methodref 11 21), (0, .nameAndType 22 23), (0, u "timeNs"), (0, u "()J"), (0, .methodref 11 25), (0, .nameAndType 26 27), (0, u "direction"), (0, u "()I"), (0, .class_ 29), (0, u "com/example/crisp_haptics/crisphaptics/DetentCheckAfterPinLaw"), (2, u "law"), (0, u "(JJI)Z")] 7

def k1m0 : Method := { name := "<init>", desc := "()V", sig := { parameters := [], returnType := none }, accessFlags := 1, code := none }
def k1c1 : Code := { maxStack := 6, maxLocals := 15, code := code, exceptionTable := #[], attributes := #[] }
def k1m1 : Method := { name := "law", desc := "(JJI)Z", sig := { parameters := [.long, .long, .int], returnType := some .boolean }, accessFlags := 9, code := some k1c1 }
/-- com/example/crisp_haptics/crisphaptics/DetentCheckAfterPinLaw -/
def k1 : Class := { plain "com/example/crisp_haptics/crisphaptics/DetentCheckAfterPinLaw" (some 0) with
  accessFlags := 49
  interfaces := #[]
  cf := some (fileOf pool1 28 #[] #[{ accessFlags := 1, nameIndex := 5, descriptorIndex := 6, attributes := #[] }, { accessFlags := 9, nameIndex := 32, descriptorIndex := 33, attributes := #[] }] 49 2 #[] #[])
  fields := #[]
  methods := #[k1m0, k1m1]
  instanceTypes := #[]
  staticTypes := #[]
  resolved := Array.replicate 41 none
  statics := none }

def pool2 : Array CpInfo := pool [(1, .methodref 2 3), (0, .class_ 4), (0, .nameAndType 5 6), (0, u "java/lang/Object"), (0, u "<init>"), (0, u "()V"), (0, .class_ 8), (0, u "java/lang/Record")] 13

def k2c0 : Code := { maxStack := 1, maxLocals := 1, code := jdk_30_method_1_code, exceptionTable := #[], attributes := #[] }
def k2m0 : Method := { name := "<init>", desc := "()V", sig := { parameters := [], returnType := none }, accessFlags := 4, code := some k2c0 }
/-- java/lang/Record -/
def k2 : Class := { plain "java/lang/Record" (some 0) with
  accessFlags := 1057
  interfaces := #[]
  cf := some (fileOf pool2 7 #[] #[{ accessFlags := 4, nameIndex := 5, descriptorIndex := 6, attributes := #[] }] 1057 2 #[] #[])
  fields := #[]
  methods := #[k2m0]
  instanceTypes := #[]
  staticTypes := #[]
  resolved := Array.replicate 22 none
  statics := none }

def pool3 : Array CpInfo := pool [(1, .methodref 2 3), (0, .class_ 4), (0, .nameAndType 5 6), (0, u "java/lang/Record"), (0, u "<init>"), (0, u "()V"), (12, .fieldref 20 21), (0, .class_ 22), (0, .nameAndType 23 24), (0, u "com/example/crisp_haptics/crisphaptics/RotaryInput$Detent"), (0, u "timeNs"), (0, u "J"), (0, .fieldref 20 26), (0, .nameAndType 27 28), (0, u "direction"), (0, u "I"), (15, u "(JI)V"), (4, u "checkAfter"), (0, u "(Lcom/example/crisp_haptics/crisphaptics/RotaryInput$Detent;)V"), (1, u "()I"), (1, u "()J"), (3, .class_ 59), (0, u "com/example/crisp_haptics/crisphaptics/RotaryInput")] 32

def k3c0 : Code := { maxStack := 4, maxLocals := 4, code := prog_81_method_1_code, exceptionTable := #[], attributes := #[] }
def k3m0 : Method := { name := "<init>", desc := "(JI)V", sig := { parameters := [.long, .int], returnType := none }, accessFlags := 1, code := some k3c0 }
def k3c1 : Code := { maxStack := 6, maxLocals := 2, code := prog_81_method_2_code, exceptionTable := #[], attributes := #[] }
def k3m1 : Method := { name := "checkAfter", desc := "(Lcom/example/crisp_haptics/crisphaptics/RotaryInput$Detent;)V", sig := { parameters := [(.object "com/example/crisp_haptics/crisphaptics/RotaryInput$Detent")], returnType := none }, accessFlags := 0, code := some k3c1 }
def k3c2 : Code := { maxStack := 2, maxLocals := 1, code := prog_81_method_6_code, exceptionTable := #[], attributes := #[] }
def k3m2 : Method := { name := "timeNs", desc := "()J", sig := { parameters := [], returnType := some .long }, accessFlags := 1, code := some k3c2 }
def k3c3 : Code := { maxStack := 1, maxLocals := 1, code := prog_81_method_7_code, exceptionTable := #[], attributes := #[] }
def k3m3 : Method := { name := "direction", desc := "()I", sig := { parameters := [], returnType := some .int }, accessFlags := 1, code := some k3c3 }
/-- com/example/crisp_haptics/crisphaptics/RotaryInput$Detent -/
def k3 : Class := { plain "com/example/crisp_haptics/crisphaptics/RotaryInput$Detent" (some 2) with
  accessFlags := 49
  interfaces := #[]
  cf := some (fileOf pool3 20 #[.nestHost 58] #[{ accessFlags := 1, nameIndex := 5, descriptorIndex := 44, attributes := #[] }, { accessFlags := 0, nameIndex := 49, descriptorIndex := 50, attributes := #[] }, { accessFlags := 1, nameIndex := 23, descriptorIndex := 54, attributes := #[] }, { accessFlags := 1, nameIndex := 27, descriptorIndex := 52, attributes := #[] }] 49 2 #[] #[{ accessFlags := 18, nameIndex := 23, descriptorIndex := 24, attributes := #[] }, { accessFlags := 18, nameIndex := 27, descriptorIndex := 28, attributes := #[] }])
  fields := #[{ name := "timeNs", type := .long, accessFlags := 18, slot := 0, constantValue := 0 }, { name := "direction", type := .int, accessFlags := 18, slot := 1, constantValue := 0 }]
  methods := #[k3m0, k3m1, k3m2, k3m3]
  instanceTypes := #[.long, .int]
  staticTypes := #[]
  resolved := Array.replicate 92 none
  statics := none }

def pool4 : Array CpInfo := pool [(1, u "java/lang/Cloneable"), (0, .class_ 1), (0, u "java/lang/Object"), (0, .class_ 3)] 3

/-- java/lang/Cloneable -/
def k4 : Class := { plain "java/lang/Cloneable" (some 0) with
  accessFlags := 1537
  interfaces := #[]
  cf := some (fileOf pool4 2 #[] #[] 1537 4 #[] #[])
  fields := #[]
  methods := #[]
  instanceTypes := #[]
  staticTypes := #[]
  resolved := Array.replicate 8 none
  statics := none }

def pool5 : Array CpInfo := pool [(1, u "java/io/Serializable"), (0, .class_ 1), (0, u "java/lang/Object"), (0, .class_ 3)] 3

/-- java/io/Serializable -/
def k5 : Class := { plain "java/io/Serializable" (some 0) with
  accessFlags := 1537
  interfaces := #[]
  cf := some (fileOf pool5 2 #[] #[] 1537 4 #[] #[])
  fields := #[]
  methods := #[]
  instanceTypes := #[]
  staticTypes := #[]
  resolved := Array.replicate 8 none
  statics := none }

/-- the primitive byte -/
def k6 : Class := { plain "byte" none with kind := .primitive 'B', accessFlags := 0x411 }
/-- [B -/
def k7 : Class := { plain "[B" (some 0) with kind := .array 6 .byte, interfaces := #[4, 5], accessFlags := 1041 }

/-- the primitive int -/
def k8 : Class := { plain "int" none with kind := .primitive 'I', accessFlags := 0x411 }
/-- [I -/
def k9 : Class := { plain "[I" (some 0) with kind := .array 8 .int, interfaces := #[4, 5], accessFlags := 1041 }

def heap : Heap := #[]
def classes : Array Class := #[k0, k1, k2, k3, k4, k5, k6, k7, k8, k9]
def interned : List (Array UInt16 × Addr) := []
def slotsUsed : Nat := 0
def theMethod : MethodId := ⟨1, 1⟩
def args0 : Array Value := #[.long 5, .long 6, .int 3]
def aboutOver (below : List Frame) : State where
  vm := { classes := classes, interned := interned.toArray }
  heap := heap
  slotsUsed := slotsUsed
  threads := #[{ frames := .invoking theMethod args0 :: below }]
def below0 : List Frame := [.native { method := ⟨0, 0⟩, args := #[] }]
def about1 : State := aboutOver below0
def p0 : Program := .bare "" "" ""
def e0 : Env := launch0.env 0 0 0
theorem w_frames : about1.frames = Frame.invoking theMethod args0 :: below0 := rfl
set_option maxRecDepth 65536 in
theorem w_args : argsFit about1.vm theMethod args0 = true := by decide +kernel
set_option maxRecDepth 65536 in
theorem w_heap : heapFits about1 = true := by decide +kernel
set_option maxRecDepth 65536 in
theorem w_runnable : about1.curStatus? = some .runnable := by decide +kernel
set_option maxRecDepth 65536 in
theorem w_alone : about1.alone = true := by decide +kernel
set_option maxRecDepth 65536 in
theorem w_named : about1.methodNamed? x = some theMethod := by decide +kernel
set_option maxRecDepth 65536 in
theorem w_hears : about1.hears theMethod below0 = true := by decide +kernel
set_option maxRecDepth 65536 in
theorem w_ripe : about1.ripe theMethod args0 below0 = true := by decide +kernel
theorem w_running : about1.status = .running := rfl
set_option maxRecDepth 65536 in
theorem w_room : about1.hasRoom e0.platform room_1 = true :=
  launch0.hasRoom_least _ room_1 (by decide +kernel) (by decide +kernel) (by decide +kernel) (by decide +kernel) (by decide +kernel) (by decide +kernel)
theorem allAtoms_all (ts : List Jvm.Cond) (a : Array Jvm.Value) (st : Jvm.State) : (allAtoms ts).before a st = ts.all (fun c => c.before a st) := by
  induction ts with
  | nil => rfl
  | cons c t ih =>
    show (Jvm.Cond.and c (allAtoms t)).before a st = _
    rw [Jvm.Cond.before_and, ih, List.all_cons]
def words1 : List Jvm.Cond := Jvm.Cond.code x code maxLocals ret :: tables_1
/-- a 'code' word, met by the world's own term for the bytes: nothing is compared byte by byte -/
theorem code_word {y : MethodName} {bytes : ByteArray} {mx : Nat} {rt : Option FieldType} {a : Array Value} {s : State} {m : MethodId} {meth : Method} {c : Code} (h1 : s.methodNamed? y = some m) (h2 : s.vm.method? m = some meth) (h3 : meth.code = some c) (h4 : c.code = bytes)
    (h5 : (c.maxLocals == mx && c.exceptionTable.isEmpty && decide (c.maxStack ≤ mostOperands) && decide (meth.sig.returnType = rt) && !meth.locks && decide (parseMethodDescriptor y.desc = some meth.sig)) = true) : (Jvm.Cond.code y bytes mx rt).before a s = true := by
  simp only [Bool.and_eq_true, beq_iff_eq, Bool.not_eq_true', decide_eq_true_eq] at h5
  obtain ⟨⟨⟨⟨⟨g1, g2⟩, g3⟩, g4⟩, g5⟩, g6⟩ := h5
  simp [Cond.before, Cond.holds, Cond.value, h1, h2, h3, h4, g1, g2, g3, g4, g5, g6]
def isCode : Jvm.Cond → Bool
  | .code _ _ _ _ => true
  | _ => false
theorem all_split {L : List Jvm.Cond} {P : Jvm.Cond → Bool} (h1 : L.all (fun c => isCode c || P c) = true) (h2 : ∀ c ∈ L.filter isCode, P c = true) : L.all P = true := by
  refine List.all_eq_true.mpr fun c hc => ?_
  have h := List.all_eq_true.mp h1 c hc
  rcases Bool.eq_false_or_eq_true (isCode c) with hi | hi
  · exact h2 c (List.mem_filter.mpr ⟨hc, hi⟩)
  · simpa [hi] using h
set_option maxRecDepth 65536 in
theorem w_c0 : (Jvm.Cond.code x code maxLocals ret).before args0 about1 = true := code_word (m := ⟨1, 1⟩) (meth := k1m1) (c := k1c1) (by decide +kernel) rfl rfl rfl (by decide +kernel)
set_option maxRecDepth 65536 in
theorem w_c1 : (Jvm.Cond.code ({ cls := "com/example/crisp_haptics/crisphaptics/RotaryInput$Detent", name := "<init>", desc := "(JI)V" } : Jvm.MethodName) prog_81_method_1_code (4 : Nat) (Option.none : Option Jvm.ClassFile.FieldType)).before args0 about1 = true := code_word (m := ⟨3, 0⟩) (meth := k3m0) (c := k3c0) (by decide +kernel) rfl rfl rfl (by decide +kernel)
set_option maxRecDepth 65536 in
theorem w_c2 : (Jvm.Cond.code ({ cls := "java/lang/Record", name := "<init>", desc := "()V" } : Jvm.MethodName) jdk_30_method_1_code (1 : Nat) (Option.none : Option Jvm.ClassFile.FieldType)).before args0 about1 = true := code_word (m := ⟨2, 0⟩) (meth := k2m0) (c := k2c0) (by decide +kernel) rfl rfl rfl (by decide +kernel)
set_option maxRecDepth 65536 in
theorem w_c3 : (Jvm.Cond.code ({ cls := "java/lang/Object", name := "<init>", desc := "()V" } : Jvm.MethodName) object_method_1_code (1 : Nat) (Option.none : Option Jvm.ClassFile.FieldType)).before args0 about1 = true := code_word (m := ⟨0, 0⟩) (meth := k0m0) (c := k0c0) (by decide +kernel) rfl rfl rfl (by decide +kernel)
set_option maxRecDepth 65536 in
theorem w_c4 : (Jvm.Cond.code ({ cls := "com/example/crisp_haptics/crisphaptics/RotaryInput$Detent", name := "checkAfter", desc := "(Lcom/example/crisp_haptics/crisphaptics/RotaryInput$Detent;)V" } : Jvm.MethodName) prog_81_method_2_code (2 : Nat) (Option.none : Option Jvm.ClassFile.FieldType)).before args0 about1 = true := code_word (m := ⟨3, 1⟩) (meth := k3m1) (c := k3c1) (by decide +kernel) rfl rfl rfl (by decide +kernel)
set_option maxRecDepth 65536 in
theorem w_c5 : (Jvm.Cond.code ({ cls := "com/example/crisp_haptics/crisphaptics/RotaryInput$Detent", name := "timeNs", desc := "()J" } : Jvm.MethodName) prog_81_method_6_code (1 : Nat) (Option.some Jvm.ClassFile.FieldType.long)).before args0 about1 = true := code_word (m := ⟨3, 2⟩) (meth := k3m2) (c := k3c2) (by decide +kernel) rfl rfl rfl (by decide +kernel)
set_option maxRecDepth 65536 in
theorem w_c6 : (Jvm.Cond.code ({ cls := "com/example/crisp_haptics/crisphaptics/RotaryInput$Detent", name := "direction", desc := "()I" } : Jvm.MethodName) prog_81_method_7_code (1 : Nat) (Option.some Jvm.ClassFile.FieldType.int)).before args0 about1 = true := code_word (m := ⟨3, 3⟩) (meth := k3m3) (c := k3c3) (by decide +kernel) rfl rfl rfl (by decide +kernel)
def codes1 : List Jvm.Cond := [Jvm.Cond.code x code maxLocals ret, Jvm.Cond.code ({ cls := "com/example/crisp_haptics/crisphaptics/RotaryInput$Detent", name := "<init>", desc := "(JI)V" } : Jvm.MethodName) prog_81_method_1_code (4 : Nat) (Option.none : Option Jvm.ClassFile.FieldType), Jvm.Cond.code ({ cls := "java/lang/Record", name := "<init>", desc := "()V" } : Jvm.MethodName) jdk_30_method_1_code (1 : Nat) (Option.none : Option Jvm.ClassFile.FieldType), Jvm.Cond.code ({ cls := "java/lang/Object", name := "<init>", desc := "()V" } : Jvm.MethodName) object_method_1_code (1 : Nat) (Option.none : Option Jvm.ClassFile.FieldType), Jvm.Cond.code ({ cls := "com/example/crisp_haptics/crisphaptics/RotaryInput$Detent", name := "checkAfter", desc := "(Lcom/example/crisp_haptics/crisphaptics/RotaryInput$Detent;)V" } : Jvm.MethodName) prog_81_method_2_code (2 : Nat) (Option.none : Option Jvm.ClassFile.FieldType), Jvm.Cond.code ({ cls := "com/example/crisp_haptics/crisphaptics/RotaryInput$Detent", name := "timeNs", desc := "()J" } : Jvm.MethodName) prog_81_method_6_code (1 : Nat) (Option.some Jvm.ClassFile.FieldType.long), Jvm.Cond.code ({ cls := "com/example/crisp_haptics/crisphaptics/RotaryInput$Detent", name := "direction", desc := "()I" } : Jvm.MethodName) prog_81_method_7_code (1 : Nat) (Option.some Jvm.ClassFile.FieldType.int)]
set_option maxRecDepth 65536 in
theorem codes_eq : words1.filter isCode = codes1 := rfl
theorem w_codes : ∀ c ∈ words1.filter isCode, c.before args0 about1 = true := by
  rw [codes_eq]
  intro c hc
  simp only [codes1, List.mem_cons, List.not_mem_nil, or_false] at hc
  rcases hc with rfl | rfl | rfl | rfl | rfl | rfl | rfl
  · exact w_c0
  · exact w_c1
  · exact w_c2
  · exact w_c3
  · exact w_c4
  · exact w_c5
  · exact w_c6
set_option maxRecDepth 65536 in
theorem w_t1 : (words1.take 24).all (fun c => isCode c || c.before args0 about1) = true := by decide +kernel
set_option maxRecDepth 65536 in
theorem w_t2 : (words1.drop 24).all (fun c => isCode c || c.before args0 about1) = true := by decide +kernel
theorem w_tables : (allAtoms (Jvm.Cond.code x code maxLocals ret :: tables_1)).before args0 about1 = true := by
  rw [allAtoms_all]
  show words1.all (fun c => c.before args0 about1) = true
  refine all_split ?_ w_codes
  rw [← List.take_append_drop 24 words1, List.all_append, w_t1, w_t2]
  rfl
set_option maxRecDepth 65536 in
theorem w_case : (Jvm.Cond.and given_1 narrow_1).before args0 about1 = true := by decide +kernel
theorem w_applies : (headSpec (Jvm.Cond.code x code maxLocals ret :: tables_1) room_1).applies x e0.platform about1 = true :=
  (Spec.applies_iff w_frames).mpr ⟨w_running, w_runnable, w_alone, w_named, w_hears, w_ripe, w_room, w_tables⟩
theorem atStart : AtStart classFile x code maxLocals ret World_1 tables_1 room_1 Calls_1 rest_1 Pre_1 launch0 p0 e0 about1 theMethod args0 below0 :=
  ⟨lists_1, trivial, launch0.admits_env _ _ _, launch0.least_env, fairChoices_fair.cas, fairChoices_fair.clock, w_frames, w_args, w_heap, w_applies, trivial, trivial, w_case⟩
end start1
theorem witness_1 : WitnessClaimed_1 := ⟨start1.p0, start1.e0, start1.about1, start1.theMethod, start1.args0, start1.below0, start1.atStart⟩
end Jvm.Pilot.@@N@@
