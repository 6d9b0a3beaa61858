import JvmDerived
import JvmDerived.Pilot.@@N@@Statement
import JvmDerived.Pilot.@@N@@Code
set_option linter.unusedVariables false
set_option linter.unusedSimpArgs false
@@BLOCK:NumsL.lean.txt@@
namespace Jvm.RoadKit
open Sem ClassFile Op Lib Jvm.Stand Jvm.Free Jvm.LawKit
section New
variable {p : Program} {l : Launch} {e : Env} {R : Room} {s : State} {m : MethodId} {args : Array Value} {below : List Frame} {meth : Method} {c : Code} {T : State} {locs : List Loc} {cells slots : Nat}
theorem retI (X : Stand p l e R s m args below meth c T locs cells slots) (hx : p.tables.exec = Jvm.exec) {pc : Nat} {Ls : Array Slot} {z : Int32} {rest : List Value} (hret : meth.sig.returnType = some .int) (hd : decode c.code pc = .ok (.ireturn, 1)) {fs : List Frame}
    (hl : ∀ (f : JFrame) (acts : List Action), f.method = m → f.locked = none → f.entered = [] → (doReturn e (T.setTop f) acts (some (.int z))).1 = T.setFrames fs) : Steps p.tables e below (T.setTop (mkF m pc Ls (.int z :: rest))) (T.setFrames fs) := by
  have hm' : T.vm.method? m = some meth := X.method'
  have hn : narrow .int (.int z) = .int z := rfl
  show Steps p.tables e below (T.setTop { method := m, pc := pc, locals := Ls, stack := _ :: rest, locked := none }) _
  jvm_step X.here [X.here.top, hx, hd, hm', hret, hn]
  first | (intro acts; rw [hl _ acts rfl rfl rfl]) | rw [hl _ _ rfl rfl rfl]
  exact Steps.refl _
theorem retD (X : Stand p l e R s m args below meth c T locs cells slots) (hx : p.tables.exec = Jvm.exec) {pc : Nat} {Ls : Array Slot} {z : UInt64} {rest : List Value} (hret : meth.sig.returnType = some .double) (hd : decode c.code pc = .ok (.dreturn, 1)) {fs : List Frame}
    (hl : ∀ (f : JFrame) (acts : List Action), f.method = m → f.locked = none → f.entered = [] → (doReturn e (T.setTop f) acts (some (.double z))).1 = T.setFrames fs) : Steps p.tables e below (T.setTop (mkF m pc Ls (.double z :: rest))) (T.setFrames fs) := by
  have hm' : T.vm.method? m = some meth := X.method'
  show Steps p.tables e below (T.setTop { method := m, pc := pc, locals := Ls, stack := _ :: rest, locked := none }) _
  jvm_step X.here [X.here.top, hx, hd, hm', hret]
  first | (intro acts; rw [hl _ acts rfl rfl rfl]) | rw [hl _ _ rfl rfl rfl]
  exact Steps.refl _
end New
end Jvm.RoadKit
namespace Jvm.Pilot.@@N@@
open Jvm Jvm.ClassFile Sem Op Lib Jvm.Free Jvm.Stand Jvm.LawKit Jvm.RoadKit Bundle Jvm.Pilot.@@N@@.Jvm.D
theorem jtlt {x y : Int64} (h : x < y) : ifCond.holds .lt (lcmpW x y) = true ∧ ifCond.holds .ge (lcmpW x y) = false ∧ ifCond.holds .gt (lcmpW y x) = true ∧ ifCond.holds .le (lcmpW y x) = false := by
  have h1 : ¬ y < x := by rw [Int64.lt_iff_toInt_lt] at h ⊢; omega
  have h2 : ¬ x = y := by rintro rfl; exact h1 h
  have h3 : ¬ y = x := fun q => h2 q.symm
  simp [ifCond.holds, lcmpW, h, h1, h2, h3]
theorem jflt {x y : Int64} (h : ¬ x < y) : ifCond.holds .lt (lcmpW x y) = false ∧ ifCond.holds .ge (lcmpW x y) = true ∧ ifCond.holds .gt (lcmpW y x) = false ∧ ifCond.holds .le (lcmpW y x) = true := by
  by_cases h2 : x = y
  · subst h2; simp [ifCond.holds, lcmpW, h]
  · have h1 : y < x := by rw [Int64.lt_iff_toInt_lt] at h ⊢; rw [← Int64.toInt_inj] at h2; omega
    have h3 : ¬ y = x := fun q => h2 q.symm
    simp [ifCond.holds, lcmpW, h, h1, h2, h3]
theorem jteq {x y : Int64} (h : x = y) : ifCond.holds .eq (lcmpW x y) = true ∧ ifCond.holds .ne (lcmpW x y) = false := by
  subst h
  have h1 : ¬ x < x := by rw [Int64.lt_iff_toInt_lt]; omega
  simp [ifCond.holds, lcmpW, h1]
theorem jfeq {x y : Int64} (h : ¬ x = y) : ifCond.holds .eq (lcmpW x y) = false ∧ ifCond.holds .ne (lcmpW x y) = true := by
  by_cases h1 : y < x <;> simp [ifCond.holds, lcmpW, h, h1]
theorem own_sta_keep {Z : State} {h h' : Heap} {C n d : String} {v : Value} {ws : List Addr} (F : Sta Z h C n d v) (K : Keep h h' ws) (q : ∀ x ∈ ws, ∃ c : Cell, h[x]? = some c ∧ c.vm.isStatics = false) : Sta Z h' C n d v := by
  obtain ⟨cf, i, k, f, st, cell, h1, h2, h3, h4, h5, h6, h7⟩ := F
  refine ⟨cf, i, k, f, st, cell, h1, h2, h3, h4, K.2.1 st cell h5 (fun hm => ?_), h6, h7⟩
  obtain ⟨c, e1, e2⟩ := q st hm
  rw [h5] at e1; cases e1; rw [h6] at e2; cases e2
theorem own_nostat {Z : State} {h : Heap} {a : Addr} {C : String} (E : Exa Z h a C) : ∃ c : Cell, h[a]? = some c ∧ c.vm.isStatics = false := by
  obtain ⟨cell, k, h1, -, -, h4, -⟩ := E
  exact ⟨cell, h1, h4⟩

/-! body 2 -/
theorem d2_0 : decode prog_73_method_12_code 0 = .ok (.iload_n 0, 1) := by decide +kernel
theorem d2_1 : decode prog_73_method_12_code 1 = .ok (.bipush 48, 2) := by decide +kernel
theorem d2_3 : decode prog_73_method_12_code 3 = .ok (.if_icmp .lt 13, 3) := by decide +kernel
theorem d2_6 : decode prog_73_method_12_code 6 = .ok (.iload_n 0, 1) := by decide +kernel
theorem d2_7 : decode prog_73_method_12_code 7 = .ok (.bipush 57, 2) := by decide +kernel
theorem d2_9 : decode prog_73_method_12_code 9 = .ok (.if_icmp .gt 7, 3) := by decide +kernel
theorem d2_12 : decode prog_73_method_12_code 12 = .ok (.iconst 1, 1) := by decide +kernel
theorem d2_13 : decode prog_73_method_12_code 13 = .ok (.goto 4, 3) := by decide +kernel
theorem d2_16 : decode prog_73_method_12_code 16 = .ok (.iconst 0, 1) := by decide +kernel
theorem d2_17 : decode prog_73_method_12_code 17 = .ok (.ireturn, 1) := by decide +kernel
theorem pn_2 : plainName "com/example/tidemark/tidemark/Tokens" = true := by first | (simp [plainName, overriddenIn]; done) | decide +kernel
theorem ef_2 (m : MethodId) (p1 : Int32) : entryFrame m #[(.int p1)] 1 = mkF m 0 #[.val (.int p1)] [] := by first | (simp [entryFrame, mkF, argsToLocals, Value.category]; done) | rfl
def Q2 (Z : State) (p1 : Int32) (h0 : Heap) (n0 : Nat) (v : Option Value) (h : Heap) (L : List Loc) : Prop := ∃ r : Int32, v = some (.int r) ∧ Fr n0 L ∧ h = h0 ∧ ((r.toInt = 1 ∧ (48 ≤ p1.toInt ∧ p1.toInt ≤ 57)) ∨ (r.toInt = 0 ∧ ¬ (48 ≤ p1.toInt ∧ p1.toInt ≤ 57)))
set_option maxRecDepth 65536 in
set_option maxHeartbeats 40000000 in
theorem rm2 (l : Launch) (Z : State) (a0 : Array Value) (hw : ∀ d ∈ tables_1, d.before a0 Z = true) (ws : List Jvm.Cond) (p1 : Int32) (h0 : Heap) (n0 : Nat) (Z0 : n0 ≤ h0.size)  :
    MetFree l (⟨"com/example/tidemark/tidemark/Tokens", "isDigit", "(I)Z"⟩ : MethodName) (head1 (Jvm.Cond.code (⟨"com/example/tidemark/tidemark/Tokens", "isDigit", "(I)Z"⟩ : MethodName) prog_73_method_12_code 1 (some .boolean) :: ws) ({ frames := 0, cells := 0, slots := 0, locals := 0 } : Room)) (fun a U => a = #[(.int p1)] ∧ Z.Warmed39 U.vm ∧ U.heap = h0) (fun _ _ _ _ _ => True) (fun _ U o U' => ∃ v L, o = .returned v ∧ Q2 Z p1 h0 n0 v U'.heap L ∧ FrameEnd U o U' L ({ frames := 0, cells := 0, slots := 0, locals := 0 } : Room).cells ({ frames := 0, cells := 0, slots := 0, locals := 0 } : Room).slots) := by
  refine MetFree.of_bodySF (plainFor_of_name pn_2) hisR ?_
  intro p e s m args below meth c s₁ Bd hml0 hP hK
  obtain ⟨rfl, hZ, hh⟩ := hP
  have hx := Bd.exec
  have hby := Bd.bytes
  have hml : c.maxLocals = 1 := hml0
  have hown : s.vm.findClass "com/example/tidemark/tidemark/Tokens" = some m.cls := findClass_of_methodNamed Bd.named
  have hnm := (name_of_methodNamed Bd.named Bd.method).1
  have X0 : Stand p l e ({ frames := 0, cells := 0, slots := 0, locals := 0 } : Room) s m #[(.int p1)] below meth c s₁ [] 0 0 := Stand.of_body Bd
  have e0 : s₁.heap = h0 := by rw [← hh, Bd.state]; rfl
  have N0 := Fr.nil n0
  have pre0 : ∀ t, Steps p.tables e below (s₁.setTop (mkF m 0 #[.val (.int p1)] [])) t → Steps p.tables e below (s₁.setTop (entryFrame m #[(.int p1)] 1)) t := fun t k => castTop (ef_2 m p1) k
  have pre1 : ∀ t, Steps p.tables e below (s₁.setTop (mkF m 3 #[.val (.int p1)] [(.int (48 : Int32)), (.int p1)])) t → Steps p.tables e below (s₁.setTop (entryFrame m #[(.int p1)] 1)) t := by
    refine fun t k => pre0 t ?_
    show Steps p.tables e below (s₁.setTop (mkF m 0 #[.val (.int p1)] [])) _
    refine XS.iloadN X0.here hx rfl (hb hby d2_0) rfl ?_
    show Steps p.tables e below (s₁.setTop (mkF m 1 #[.val (.int p1)] [(.int p1)])) _
    refine XS.bipush X0.here hx rfl (hb hby d2_1) ?_
    exact k
  by_cases hc3 : p1 < (48 : Int32)
  · skip
    have pre2 : ∀ t, Steps p.tables e below (s₁.setTop (mkF m 16 #[.val (.int p1)] [])) t → Steps p.tables e below (s₁.setTop (entryFrame m #[(.int p1)] 1)) t := by
      refine fun t k => pre1 t ?_
      show Steps p.tables e below (s₁.setTop (mkF m 3 #[.val (.int p1)] [(.int (48 : Int32)), (.int p1)])) _
      refine XS.icmpYes X0.here hx rfl (pc0 := 3) (pc' := 16) rfl (hb hby d2_3) rfl (tlt hc3).1 (by decide) (by decide) ?_
      exact k
    obtain ⟨fs, hr, hrun, hended, hW, hsame⟩ := X0.leave (v := some (.int (0 : Int32))) (fun h => by rw [Bd.returns] at h; cases h)
    refine ⟨_, _, pre2 _ ?_, hrun, hended, _, _, rfl, ?_, ⟨_, rfl⟩, hW, hsame.mono (by decide) (by decide)⟩
    · skip
      show Steps p.tables e below (s₁.setTop (mkF m 16 #[.val (.int p1)] [])) _
      refine XS.iconst X0.here hx rfl (hb hby d2_16) ?_
      show Steps p.tables e below (s₁.setTop (mkF m 17 #[.val (.int p1)] [(.int (0 : Int32))])) _
      exact retN X0 hx (t := .boolean) Bd.returns (by simp) (hb hby d2_17) hr
    · show Q2 Z p1 h0 n0 _ s₁.heap _
      rw [e0]
      refine ⟨(0 : Int32), rfl, N0, rfl, ?_⟩
      simp only [Int32.lt_iff_toInt_lt, ← Int32.toInt_inj, Int32.reduceToInt, true_and, and_true, false_and, and_false, or_false, false_or, not_true_eq_false, not_false_eq_true] at hc3 ⊢ <;> omega
  · skip
    have pre3 : ∀ t, Steps p.tables e below (s₁.setTop (mkF m 6 #[.val (.int p1)] [])) t → Steps p.tables e below (s₁.setTop (entryFrame m #[(.int p1)] 1)) t := by
      refine fun t k => pre1 t ?_
      show Steps p.tables e below (s₁.setTop (mkF m 3 #[.val (.int p1)] [(.int (48 : Int32)), (.int p1)])) _
      refine XS.icmpNo X0.here hx rfl (hb hby d2_3) rfl (flt hc3).1 ?_
      exact k
    have pre4 : ∀ t, Steps p.tables e below (s₁.setTop (mkF m 9 #[.val (.int p1)] [(.int (57 : Int32)), (.int p1)])) t → Steps p.tables e below (s₁.setTop (entryFrame m #[(.int p1)] 1)) t := by
      refine fun t k => pre3 t ?_
      show Steps p.tables e below (s₁.setTop (mkF m 6 #[.val (.int p1)] [])) _
      refine XS.iloadN X0.here hx rfl (hb hby d2_6) rfl ?_
      show Steps p.tables e below (s₁.setTop (mkF m 7 #[.val (.int p1)] [(.int p1)])) _
      refine XS.bipush X0.here hx rfl (hb hby d2_7) ?_
      exact k
    by_cases hc9 : (57 : Int32) < p1
    · skip
      have pre5 : ∀ t, Steps p.tables e below (s₁.setTop (mkF m 16 #[.val (.int p1)] [])) t → Steps p.tables e below (s₁.setTop (entryFrame m #[(.int p1)] 1)) t := by
        refine fun t k => pre4 t ?_
        show Steps p.tables e below (s₁.setTop (mkF m 9 #[.val (.int p1)] [(.int (57 : Int32)), (.int p1)])) _
        refine XS.icmpYes X0.here hx rfl (pc0 := 9) (pc' := 16) rfl (hb hby d2_9) rfl (tlt hc9).2.2.1 (by decide) (by decide) ?_
        exact k
      obtain ⟨fs, hr, hrun, hended, hW, hsame⟩ := X0.leave (v := some (.int (0 : Int32))) (fun h => by rw [Bd.returns] at h; cases h)
      refine ⟨_, _, pre5 _ ?_, hrun, hended, _, _, rfl, ?_, ⟨_, rfl⟩, hW, hsame.mono (by decide) (by decide)⟩
      · skip
        show Steps p.tables e below (s₁.setTop (mkF m 16 #[.val (.int p1)] [])) _
        refine XS.iconst X0.here hx rfl (hb hby d2_16) ?_
        show Steps p.tables e below (s₁.setTop (mkF m 17 #[.val (.int p1)] [(.int (0 : Int32))])) _
        exact retN X0 hx (t := .boolean) Bd.returns (by simp) (hb hby d2_17) hr
      · show Q2 Z p1 h0 n0 _ s₁.heap _
        rw [e0]
        refine ⟨(0 : Int32), rfl, N0, rfl, ?_⟩
        simp only [Int32.lt_iff_toInt_lt, ← Int32.toInt_inj, Int32.reduceToInt, true_and, and_true, false_and, and_false, or_false, false_or, not_true_eq_false, not_false_eq_true] at hc3 hc9 ⊢ <;> omega
    · skip
      have pre6 : ∀ t, Steps p.tables e below (s₁.setTop (mkF m 12 #[.val (.int p1)] [])) t → Steps p.tables e below (s₁.setTop (entryFrame m #[(.int p1)] 1)) t := by
        refine fun t k => pre4 t ?_
        show Steps p.tables e below (s₁.setTop (mkF m 9 #[.val (.int p1)] [(.int (57 : Int32)), (.int p1)])) _
        refine XS.icmpNo X0.here hx rfl (hb hby d2_9) rfl (flt hc9).2.2.1 ?_
        exact k
      obtain ⟨fs, hr, hrun, hended, hW, hsame⟩ := X0.leave (v := some (.int (1 : Int32))) (fun h => by rw [Bd.returns] at h; cases h)
      refine ⟨_, _, pre6 _ ?_, hrun, hended, _, _, rfl, ?_, ⟨_, rfl⟩, hW, hsame.mono (by decide) (by decide)⟩
      · skip
        show Steps p.tables e below (s₁.setTop (mkF m 12 #[.val (.int p1)] [])) _
        refine XS.iconst X0.here hx rfl (hb hby d2_12) ?_
        show Steps p.tables e below (s₁.setTop (mkF m 13 #[.val (.int p1)] [(.int (1 : Int32))])) _
        refine XS.goto X0.here hx rfl (pc0 := 13) (pc' := 17) rfl (hb hby d2_13) (by decide) (by decide) ?_
        show Steps p.tables e below (s₁.setTop (mkF m 17 #[.val (.int p1)] [(.int (1 : Int32))])) _
        exact retN X0 hx (t := .boolean) Bd.returns (by simp) (hb hby d2_17) hr
      · show Q2 Z p1 h0 n0 _ s₁.heap _
        rw [e0]
        refine ⟨(1 : Int32), rfl, N0, rfl, ?_⟩
        simp only [Int32.lt_iff_toInt_lt, ← Int32.toInt_inj, Int32.reduceToInt, true_and, and_true, false_and, and_false, or_false, false_or, not_true_eq_false, not_false_eq_true] at hc3 hc9 ⊢ <;> omega
/-! body 1 -/
theorem d1_0 : decode prog_73_method_11_code 0 = .ok (.iload_n 0, 1) := by decide +kernel
theorem d1_1 : decode prog_73_method_11_code 1 = .ok (.invokestatic 121, 3) := by decide +kernel
theorem d1_4 : decode prog_73_method_11_code 4 = .ok (.ifCond .ne 33, 3) := by decide +kernel
theorem d1_7 : decode prog_73_method_11_code 7 = .ok (.iload_n 0, 1) := by decide +kernel
theorem d1_8 : decode prog_73_method_11_code 8 = .ok (.bipush 97, 2) := by decide +kernel
theorem d1_10 : decode prog_73_method_11_code 10 = .ok (.if_icmp .lt 9, 3) := by decide +kernel
theorem d1_13 : decode prog_73_method_11_code 13 = .ok (.iload_n 0, 1) := by decide +kernel
theorem d1_14 : decode prog_73_method_11_code 14 = .ok (.bipush 122, 2) := by decide +kernel
theorem d1_16 : decode prog_73_method_11_code 16 = .ok (.if_icmp .le 21, 3) := by decide +kernel
theorem d1_19 : decode prog_73_method_11_code 19 = .ok (.iload_n 0, 1) := by decide +kernel
theorem d1_20 : decode prog_73_method_11_code 20 = .ok (.bipush 65, 2) := by decide +kernel
theorem d1_22 : decode prog_73_method_11_code 22 = .ok (.if_icmp .lt 9, 3) := by decide +kernel
theorem d1_25 : decode prog_73_method_11_code 25 = .ok (.iload_n 0, 1) := by decide +kernel
theorem d1_26 : decode prog_73_method_11_code 26 = .ok (.bipush 90, 2) := by decide +kernel
theorem d1_28 : decode prog_73_method_11_code 28 = .ok (.if_icmp .le 9, 3) := by decide +kernel
theorem d1_31 : decode prog_73_method_11_code 31 = .ok (.iload_n 0, 1) := by decide +kernel
theorem d1_32 : decode prog_73_method_11_code 32 = .ok (.bipush 95, 2) := by decide +kernel
theorem d1_34 : decode prog_73_method_11_code 34 = .ok (.if_icmp .ne 7, 3) := by decide +kernel
theorem d1_37 : decode prog_73_method_11_code 37 = .ok (.iconst 1, 1) := by decide +kernel
theorem d1_38 : decode prog_73_method_11_code 38 = .ok (.goto 4, 3) := by decide +kernel
theorem d1_41 : decode prog_73_method_11_code 41 = .ok (.iconst 0, 1) := by decide +kernel
theorem d1_42 : decode prog_73_method_11_code 42 = .ok (.ireturn, 1) := by decide +kernel
theorem pn_1 : plainName "com/example/tidemark/tidemark/Tokens" = true := by first | (simp [plainName, overriddenIn]; done) | decide +kernel
theorem pd1_0 : parseMethodDescriptor "(I)Z" = some ⟨[.int], some .boolean⟩ := by decide +kernel
theorem ef_1 (m : MethodId) (p1 : Int32) : entryFrame m #[(.int p1)] 1 = mkF m 0 #[.val (.int p1)] [] := by first | (simp [entryFrame, mkF, argsToLocals, Value.category]; done) | rfl
def Q1 (Z : State) (p1 : Int32) (h0 : Heap) (n0 : Nat) (v : Option Value) (h : Heap) (L : List Loc) : Prop := ∃ r : Int32, v = some (.int r) ∧ Fr n0 L ∧ h = h0 ∧ ((r.toInt = 1 ∧ ((48 ≤ p1.toInt ∧ p1.toInt ≤ 57) ∨ (97 ≤ p1.toInt ∧ p1.toInt ≤ 122) ∨ (65 ≤ p1.toInt ∧ p1.toInt ≤ 90) ∨ p1.toInt = 95)) ∨ (r.toInt = 0 ∧ ¬ ((48 ≤ p1.toInt ∧ p1.toInt ≤ 57) ∨ (97 ≤ p1.toInt ∧ p1.toInt ≤ 122) ∨ (65 ≤ p1.toInt ∧ p1.toInt ≤ 90) ∨ p1.toInt = 95)))
set_option maxRecDepth 65536 in
set_option maxHeartbeats 40000000 in
theorem rm1 (l : Launch) (Z : State) (a0 : Array Value) (hw : ∀ d ∈ tables_1, d.before a0 Z = true) (ws : List Jvm.Cond) (p1 : Int32) (h0 : Heap) (n0 : Nat) (Z0 : n0 ≤ h0.size)  :
    MetFree l (⟨"com/example/tidemark/tidemark/Tokens", "isWordCharacter", "(I)Z"⟩ : MethodName) (head1 (Jvm.Cond.code (⟨"com/example/tidemark/tidemark/Tokens", "isWordCharacter", "(I)Z"⟩ : MethodName) prog_73_method_11_code 1 (some .boolean) :: ws) ({ frames := 1, cells := 0, slots := 0, locals := 12 } : Room)) (fun a U => a = #[(.int p1)] ∧ Z.Warmed39 U.vm ∧ U.heap = h0) (fun _ _ _ _ _ => True) (fun _ U o U' => ∃ v L, o = .returned v ∧ Q1 Z p1 h0 n0 v U'.heap L ∧ FrameEnd U o U' L ({ frames := 1, cells := 0, slots := 0, locals := 12 } : Room).cells ({ frames := 1, cells := 0, slots := 0, locals := 12 } : Room).slots) := by
  refine MetFree.of_bodySF (plainFor_of_name pn_1) hisR ?_
  intro p e s m args below meth c s₁ Bd hml0 hP hK
  obtain ⟨rfl, hZ, hh⟩ := hP
  have hx := Bd.exec
  have hby := Bd.bytes
  have hml : c.maxLocals = 1 := hml0
  have hown : s.vm.findClass "com/example/tidemark/tidemark/Tokens" = some m.cls := findClass_of_methodNamed Bd.named
  have hnm := (name_of_methodNamed Bd.named Bd.method).1
  have X0 : Stand p l e ({ frames := 1, cells := 0, slots := 0, locals := 12 } : Room) s m #[(.int p1)] below meth c s₁ [] 0 0 := Stand.of_body Bd
  have e0 : s₁.heap = h0 := by rw [← hh, Bd.state]; rfl
  have N0 := Fr.nil n0
  have pre0 : ∀ t, Steps p.tables e below (s₁.setTop (mkF m 0 #[.val (.int p1)] [])) t → Steps p.tables e below (s₁.setTop (entryFrame m #[(.int p1)] 1)) t := fun t k => castTop (ef_1 m p1) k
  have pre1 : ∀ t, Steps p.tables e below (s₁.setTop (mkF m 1 #[.val (.int p1)] [(.int p1)])) t → Steps p.tables e below (s₁.setTop (entryFrame m #[(.int p1)] 1)) t := by
    refine fun t k => pre0 t ?_
    show Steps p.tables e below (s₁.setTop (mkF m 0 #[.val (.int p1)] [])) _
    refine XS.iloadN X0.here hx rfl (hb hby d1_0) rfl ?_
    exact k
  have Z2 : n0 ≤ h0.size := Z0
  obtain ⟨_, _, ⟨T2, L2, k2, n2⟩, -, X2, ⟨Lc2, hQ2, l2, y2, z2⟩, st2⟩ := Jvm.LawKit.callS X0 hx (y := (⟨"com/example/tidemark/tidemark/Tokens", "isDigit", "(I)Z"⟩ : MethodName)) hown (mvT hZ (hw _ (List.mem_of_getElem? (i := 4) rfl))) (mvT hZ (hw _ (List.mem_of_getElem? (i := 5) rfl))) (mvT hZ (hw _ (List.mem_of_getElem? (i := 2) rfl))) (mvT hZ (hw _ (List.mem_of_getElem? (i := 6) rfl))) (by decide) (backOf (W := 0) (rm2 l Z a0 hw [] p1  h0 n0 Z2 ) hZ (hw _ (List.mem_of_getElem? (i := 6) rfl)) (hw _ (List.mem_of_getElem? (i := 2) rfl)) (by decide) (by decide)) (g := (mkF m 1 #[.val (.int p1)] [(.int p1)])) rfl (by rw [hml]; rfl) (argsL := [(.int p1)]) (rest := []) (lenOf pd1_0 rfl) rfl (by show 2 * 0 + _ ≤ _; exact Nat.le_of_eq rfl) (hb hby d1_1) (fun _ _ => ⟨rfl, e0, (by decide : 0 + 0 ≤ _), (by decide : 0 + 0 ≤ _)⟩)
  dsimp only [Pt.U, Pt.locs, Pt.cells, Pt.slots] at X2 l2 y2 z2 st2 hQ2
  subst l2 y2 z2
  obtain ⟨r3, rfl, Nq2, ehq2, hq2⟩ := hQ2
  have N2 := Fr.app N0 Nq2
  have pre4 : ∀ t, Steps p.tables e below (T2.setTop (mkF m 4 #[.val (.int p1)] [(.int r3)])) t → Steps p.tables e below (s₁.setTop (entryFrame m #[(.int p1)] 1)) t := fun t k => pre1 t (st2 _ k)
  by_cases hc4 : r3 = (0 : Int32)
  · skip
    have pre5 : ∀ t, Steps p.tables e below (T2.setTop (mkF m 7 #[.val (.int p1)] [])) t → Steps p.tables e below (s₁.setTop (entryFrame m #[(.int p1)] 1)) t := by
      refine fun t k => pre4 t ?_
      show Steps p.tables e below (T2.setTop (mkF m 4 #[.val (.int p1)] [(.int r3)])) _
      refine XS.ifNo X2.here hx rfl (hb hby d1_4) rfl ((if0 _ _).trans (teq hc4).2) ?_
      exact k
    have pre6 : ∀ t, Steps p.tables e below (T2.setTop (mkF m 10 #[.val (.int p1)] [(.int (97 : Int32)), (.int p1)])) t → Steps p.tables e below (s₁.setTop (entryFrame m #[(.int p1)] 1)) t := by
      refine fun t k => pre5 t ?_
      show Steps p.tables e below (T2.setTop (mkF m 7 #[.val (.int p1)] [])) _
      refine XS.iloadN X2.here hx rfl (hb hby d1_7) rfl ?_
      show Steps p.tables e below (T2.setTop (mkF m 8 #[.val (.int p1)] [(.int p1)])) _
      refine XS.bipush X2.here hx rfl (hb hby d1_8) ?_
      exact k
    by_cases hc10 : p1 < (97 : Int32)
    · skip
      have pre7 : ∀ t, Steps p.tables e below (T2.setTop (mkF m 19 #[.val (.int p1)] [])) t → Steps p.tables e below (s₁.setTop (entryFrame m #[(.int p1)] 1)) t := by
        refine fun t k => pre6 t ?_
        show Steps p.tables e below (T2.setTop (mkF m 10 #[.val (.int p1)] [(.int (97 : Int32)), (.int p1)])) _
        refine XS.icmpYes X2.here hx rfl (pc0 := 10) (pc' := 19) rfl (hb hby d1_10) rfl (tlt hc10).1 (by decide) (by decide) ?_
        exact k
      have pre8 : ∀ t, Steps p.tables e below (T2.setTop (mkF m 22 #[.val (.int p1)] [(.int (65 : Int32)), (.int p1)])) t → Steps p.tables e below (s₁.setTop (entryFrame m #[(.int p1)] 1)) t := by
        refine fun t k => pre7 t ?_
        show Steps p.tables e below (T2.setTop (mkF m 19 #[.val (.int p1)] [])) _
        refine XS.iloadN X2.here hx rfl (hb hby d1_19) rfl ?_
        show Steps p.tables e below (T2.setTop (mkF m 20 #[.val (.int p1)] [(.int p1)])) _
        refine XS.bipush X2.here hx rfl (hb hby d1_20) ?_
        exact k
      by_cases hc22 : p1 < (65 : Int32)
      · skip
        have pre9 : ∀ t, Steps p.tables e below (T2.setTop (mkF m 31 #[.val (.int p1)] [])) t → Steps p.tables e below (s₁.setTop (entryFrame m #[(.int p1)] 1)) t := by
          refine fun t k => pre8 t ?_
          show Steps p.tables e below (T2.setTop (mkF m 22 #[.val (.int p1)] [(.int (65 : Int32)), (.int p1)])) _
          refine XS.icmpYes X2.here hx rfl (pc0 := 22) (pc' := 31) rfl (hb hby d1_22) rfl (tlt hc22).1 (by decide) (by decide) ?_
          exact k
        have pre10 : ∀ t, Steps p.tables e below (T2.setTop (mkF m 34 #[.val (.int p1)] [(.int (95 : Int32)), (.int p1)])) t → Steps p.tables e below (s₁.setTop (entryFrame m #[(.int p1)] 1)) t := by
          refine fun t k => pre9 t ?_
          show Steps p.tables e below (T2.setTop (mkF m 31 #[.val (.int p1)] [])) _
          refine XS.iloadN X2.here hx rfl (hb hby d1_31) rfl ?_
          show Steps p.tables e below (T2.setTop (mkF m 32 #[.val (.int p1)] [(.int p1)])) _
          refine XS.bipush X2.here hx rfl (hb hby d1_32) ?_
          exact k
        by_cases hc34 : p1 = (95 : Int32)
        · skip
          have pre11 : ∀ t, Steps p.tables e below (T2.setTop (mkF m 37 #[.val (.int p1)] [])) t → Steps p.tables e below (s₁.setTop (entryFrame m #[(.int p1)] 1)) t := by
            refine fun t k => pre10 t ?_
            show Steps p.tables e below (T2.setTop (mkF m 34 #[.val (.int p1)] [(.int (95 : Int32)), (.int p1)])) _
            refine XS.icmpNo X2.here hx rfl (hb hby d1_34) rfl (teq hc34).2 ?_
            exact k
          obtain ⟨fs, hr, hrun, hended, hW, hsame⟩ := X2.leave (v := some (.int (1 : Int32))) (fun h => by rw [Bd.returns] at h; cases h)
          refine ⟨_, _, pre11 _ ?_, hrun, hended, _, _, rfl, ?_, ⟨_, rfl⟩, hW, hsame.mono (by decide) (by decide)⟩
          · skip
            show Steps p.tables e below (T2.setTop (mkF m 37 #[.val (.int p1)] [])) _
            refine XS.iconst X2.here hx rfl (hb hby d1_37) ?_
            show Steps p.tables e below (T2.setTop (mkF m 38 #[.val (.int p1)] [(.int (1 : Int32))])) _
            refine XS.goto X2.here hx rfl (pc0 := 38) (pc' := 42) rfl (hb hby d1_38) (by decide) (by decide) ?_
            show Steps p.tables e below (T2.setTop (mkF m 42 #[.val (.int p1)] [(.int (1 : Int32))])) _
            exact retN X2 hx (t := .boolean) Bd.returns (by simp) (hb hby d1_42) hr
          · show Q1 Z p1 h0 n0 _ T2.heap _
            rw [ehq2]
            refine ⟨(1 : Int32), rfl, N2, rfl, ?_⟩
            simp only [Int32.lt_iff_toInt_lt, ← Int32.toInt_inj, Int32.reduceToInt, true_and, and_true, false_and, and_false, or_false, false_or, not_true_eq_false, not_false_eq_true] at hq2 hc4 hc10 hc22 hc34 ⊢ <;> omega
        · skip
          have pre12 : ∀ t, Steps p.tables e below (T2.setTop (mkF m 41 #[.val (.int p1)] [])) t → Steps p.tables e below (s₁.setTop (entryFrame m #[(.int p1)] 1)) t := by
            refine fun t k => pre10 t ?_
            show Steps p.tables e below (T2.setTop (mkF m 34 #[.val (.int p1)] [(.int (95 : Int32)), (.int p1)])) _
            refine XS.icmpYes X2.here hx rfl (pc0 := 34) (pc' := 41) rfl (hb hby d1_34) rfl (feq hc34).2 (by decide) (by decide) ?_
            exact k
          obtain ⟨fs, hr, hrun, hended, hW, hsame⟩ := X2.leave (v := some (.int (0 : Int32))) (fun h => by rw [Bd.returns] at h; cases h)
          refine ⟨_, _, pre12 _ ?_, hrun, hended, _, _, rfl, ?_, ⟨_, rfl⟩, hW, hsame.mono (by decide) (by decide)⟩
          · skip
            show Steps p.tables e below (T2.setTop (mkF m 41 #[.val (.int p1)] [])) _
            refine XS.iconst X2.here hx rfl (hb hby d1_41) ?_
            show Steps p.tables e below (T2.setTop (mkF m 42 #[.val (.int p1)] [(.int (0 : Int32))])) _
            exact retN X2 hx (t := .boolean) Bd.returns (by simp) (hb hby d1_42) hr
          · show Q1 Z p1 h0 n0 _ T2.heap _
            rw [ehq2]
            refine ⟨(0 : Int32), rfl, N2, rfl, ?_⟩
            simp only [Int32.lt_iff_toInt_lt, ← Int32.toInt_inj, Int32.reduceToInt, true_and, and_true, false_and, and_false, or_false, false_or, not_true_eq_false, not_false_eq_true] at hq2 hc4 hc10 hc22 hc34 ⊢ <;> omega
      · skip
        have pre13 : ∀ t, Steps p.tables e below (T2.setTop (mkF m 25 #[.val (.int p1)] [])) t → Steps p.tables e below (s₁.setTop (entryFrame m #[(.int p1)] 1)) t := by
          refine fun t k => pre8 t ?_
          show Steps p.tables e below (T2.setTop (mkF m 22 #[.val (.int p1)] [(.int (65 : Int32)), (.int p1)])) _
          refine XS.icmpNo X2.here hx rfl (hb hby d1_22) rfl (flt hc22).1 ?_
          exact k
        have pre14 : ∀ t, Steps p.tables e below (T2.setTop (mkF m 28 #[.val (.int p1)] [(.int (90 : Int32)), (.int p1)])) t → Steps p.tables e below (s₁.setTop (entryFrame m #[(.int p1)] 1)) t := by
          refine fun t k => pre13 t ?_
          show Steps p.tables e below (T2.setTop (mkF m 25 #[.val (.int p1)] [])) _
          refine XS.iloadN X2.here hx rfl (hb hby d1_25) rfl ?_
          show Steps p.tables e below (T2.setTop (mkF m 26 #[.val (.int p1)] [(.int p1)])) _
          refine XS.bipush X2.here hx rfl (hb hby d1_26) ?_
          exact k
        by_cases hc28 : (90 : Int32) < p1
        · skip
          have pre15 : ∀ t, Steps p.tables e below (T2.setTop (mkF m 31 #[.val (.int p1)] [])) t → Steps p.tables e below (s₁.setTop (entryFrame m #[(.int p1)] 1)) t := by
            refine fun t k => pre14 t ?_
            show Steps p.tables e below (T2.setTop (mkF m 28 #[.val (.int p1)] [(.int (90 : Int32)), (.int p1)])) _
            refine XS.icmpNo X2.here hx rfl (hb hby d1_28) rfl (tlt hc28).2.2.2 ?_
            exact k
          have pre16 : ∀ t, Steps p.tables e below (T2.setTop (mkF m 34 #[.val (.int p1)] [(.int (95 : Int32)), (.int p1)])) t → Steps p.tables e below (s₁.setTop (entryFrame m #[(.int p1)] 1)) t := by
            refine fun t k => pre15 t ?_
            show Steps p.tables e below (T2.setTop (mkF m 31 #[.val (.int p1)] [])) _
            refine XS.iloadN X2.here hx rfl (hb hby d1_31) rfl ?_
            show Steps p.tables e below (T2.setTop (mkF m 32 #[.val (.int p1)] [(.int p1)])) _
            refine XS.bipush X2.here hx rfl (hb hby d1_32) ?_
            exact k
          by_cases hc34 : p1 = (95 : Int32)
          · skip
            have pre17 : ∀ t, Steps p.tables e below (T2.setTop (mkF m 37 #[.val (.int p1)] [])) t → Steps p.tables e below (s₁.setTop (entryFrame m #[(.int p1)] 1)) t := by
              refine fun t k => pre16 t ?_
              show Steps p.tables e below (T2.setTop (mkF m 34 #[.val (.int p1)] [(.int (95 : Int32)), (.int p1)])) _
              refine XS.icmpNo X2.here hx rfl (hb hby d1_34) rfl (teq hc34).2 ?_
              exact k
            obtain ⟨fs, hr, hrun, hended, hW, hsame⟩ := X2.leave (v := some (.int (1 : Int32))) (fun h => by rw [Bd.returns] at h; cases h)
            refine ⟨_, _, pre17 _ ?_, hrun, hended, _, _, rfl, ?_, ⟨_, rfl⟩, hW, hsame.mono (by decide) (by decide)⟩
            · skip
              show Steps p.tables e below (T2.setTop (mkF m 37 #[.val (.int p1)] [])) _
              refine XS.iconst X2.here hx rfl (hb hby d1_37) ?_
              show Steps p.tables e below (T2.setTop (mkF m 38 #[.val (.int p1)] [(.int (1 : Int32))])) _
              refine XS.goto X2.here hx rfl (pc0 := 38) (pc' := 42) rfl (hb hby d1_38) (by decide) (by decide) ?_
              show Steps p.tables e below (T2.setTop (mkF m 42 #[.val (.int p1)] [(.int (1 : Int32))])) _
              exact retN X2 hx (t := .boolean) Bd.returns (by simp) (hb hby d1_42) hr
            · show Q1 Z p1 h0 n0 _ T2.heap _
              rw [ehq2]
              refine ⟨(1 : Int32), rfl, N2, rfl, ?_⟩
              simp only [Int32.lt_iff_toInt_lt, ← Int32.toInt_inj, Int32.reduceToInt, true_and, and_true, false_and, and_false, or_false, false_or, not_true_eq_false, not_false_eq_true] at hq2 hc4 hc10 hc22 hc28 hc34 ⊢ <;> omega
          · skip
            have pre18 : ∀ t, Steps p.tables e below (T2.setTop (mkF m 41 #[.val (.int p1)] [])) t → Steps p.tables e below (s₁.setTop (entryFrame m #[(.int p1)] 1)) t := by
              refine fun t k => pre16 t ?_
              show Steps p.tables e below (T2.setTop (mkF m 34 #[.val (.int p1)] [(.int (95 : Int32)), (.int p1)])) _
              refine XS.icmpYes X2.here hx rfl (pc0 := 34) (pc' := 41) rfl (hb hby d1_34) rfl (feq hc34).2 (by decide) (by decide) ?_
              exact k
            obtain ⟨fs, hr, hrun, hended, hW, hsame⟩ := X2.leave (v := some (.int (0 : Int32))) (fun h => by rw [Bd.returns] at h; cases h)
            refine ⟨_, _, pre18 _ ?_, hrun, hended, _, _, rfl, ?_, ⟨_, rfl⟩, hW, hsame.mono (by decide) (by decide)⟩
            · skip
              show Steps p.tables e below (T2.setTop (mkF m 41 #[.val (.int p1)] [])) _
              refine XS.iconst X2.here hx rfl (hb hby d1_41) ?_
              show Steps p.tables e below (T2.setTop (mkF m 42 #[.val (.int p1)] [(.int (0 : Int32))])) _
              exact retN X2 hx (t := .boolean) Bd.returns (by simp) (hb hby d1_42) hr
            · show Q1 Z p1 h0 n0 _ T2.heap _
              rw [ehq2]
              refine ⟨(0 : Int32), rfl, N2, rfl, ?_⟩
              simp only [Int32.lt_iff_toInt_lt, ← Int32.toInt_inj, Int32.reduceToInt, true_and, and_true, false_and, and_false, or_false, false_or, not_true_eq_false, not_false_eq_true] at hq2 hc4 hc10 hc22 hc28 hc34 ⊢ <;> omega
        · skip
          have pre19 : ∀ t, Steps p.tables e below (T2.setTop (mkF m 37 #[.val (.int p1)] [])) t → Steps p.tables e below (s₁.setTop (entryFrame m #[(.int p1)] 1)) t := by
            refine fun t k => pre14 t ?_
            show Steps p.tables e below (T2.setTop (mkF m 28 #[.val (.int p1)] [(.int (90 : Int32)), (.int p1)])) _
            refine XS.icmpYes X2.here hx rfl (pc0 := 28) (pc' := 37) rfl (hb hby d1_28) rfl (flt hc28).2.2.2 (by decide) (by decide) ?_
            exact k
          obtain ⟨fs, hr, hrun, hended, hW, hsame⟩ := X2.leave (v := some (.int (1 : Int32))) (fun h => by rw [Bd.returns] at h; cases h)
          refine ⟨_, _, pre19 _ ?_, hrun, hended, _, _, rfl, ?_, ⟨_, rfl⟩, hW, hsame.mono (by decide) (by decide)⟩
          · skip
            show Steps p.tables e below (T2.setTop (mkF m 37 #[.val (.int p1)] [])) _
            refine XS.iconst X2.here hx rfl (hb hby d1_37) ?_
            show Steps p.tables e below (T2.setTop (mkF m 38 #[.val (.int p1)] [(.int (1 : Int32))])) _
            refine XS.goto X2.here hx rfl (pc0 := 38) (pc' := 42) rfl (hb hby d1_38) (by decide) (by decide) ?_
            show Steps p.tables e below (T2.setTop (mkF m 42 #[.val (.int p1)] [(.int (1 : Int32))])) _
            exact retN X2 hx (t := .boolean) Bd.returns (by simp) (hb hby d1_42) hr
          · show Q1 Z p1 h0 n0 _ T2.heap _
            rw [ehq2]
            refine ⟨(1 : Int32), rfl, N2, rfl, ?_⟩
            simp only [Int32.lt_iff_toInt_lt, ← Int32.toInt_inj, Int32.reduceToInt, true_and, and_true, false_and, and_false, or_false, false_or, not_true_eq_false, not_false_eq_true] at hq2 hc4 hc10 hc22 hc28 ⊢ <;> omega
    · skip
      have pre20 : ∀ t, Steps p.tables e below (T2.setTop (mkF m 13 #[.val (.int p1)] [])) t → Steps p.tables e below (s₁.setTop (entryFrame m #[(.int p1)] 1)) t := by
        refine fun t k => pre6 t ?_
        show Steps p.tables e below (T2.setTop (mkF m 10 #[.val (.int p1)] [(.int (97 : Int32)), (.int p1)])) _
        refine XS.icmpNo X2.here hx rfl (hb hby d1_10) rfl (flt hc10).1 ?_
        exact k
      have pre21 : ∀ t, Steps p.tables e below (T2.setTop (mkF m 16 #[.val (.int p1)] [(.int (122 : Int32)), (.int p1)])) t → Steps p.tables e below (s₁.setTop (entryFrame m #[(.int p1)] 1)) t := by
        refine fun t k => pre20 t ?_
        show Steps p.tables e below (T2.setTop (mkF m 13 #[.val (.int p1)] [])) _
        refine XS.iloadN X2.here hx rfl (hb hby d1_13) rfl ?_
        show Steps p.tables e below (T2.setTop (mkF m 14 #[.val (.int p1)] [(.int p1)])) _
        refine XS.bipush X2.here hx rfl (hb hby d1_14) ?_
        exact k
      by_cases hc16 : (122 : Int32) < p1
      · skip
        have pre22 : ∀ t, Steps p.tables e below (T2.setTop (mkF m 19 #[.val (.int p1)] [])) t → Steps p.tables e below (s₁.setTop (entryFrame m #[(.int p1)] 1)) t := by
          refine fun t k => pre21 t ?_
          show Steps p.tables e below (T2.setTop (mkF m 16 #[.val (.int p1)] [(.int (122 : Int32)), (.int p1)])) _
          refine XS.icmpNo X2.here hx rfl (hb hby d1_16) rfl (tlt hc16).2.2.2 ?_
          exact k
        have pre23 : ∀ t, Steps p.tables e below (T2.setTop (mkF m 22 #[.val (.int p1)] [(.int (65 : Int32)), (.int p1)])) t → Steps p.tables e below (s₁.setTop (entryFrame m #[(.int p1)] 1)) t := by
          refine fun t k => pre22 t ?_
          show Steps p.tables e below (T2.setTop (mkF m 19 #[.val (.int p1)] [])) _
          refine XS.iloadN X2.here hx rfl (hb hby d1_19) rfl ?_
          show Steps p.tables e below (T2.setTop (mkF m 20 #[.val (.int p1)] [(.int p1)])) _
          refine XS.bipush X2.here hx rfl (hb hby d1_20) ?_
          exact k
        by_cases hc22 : p1 < (65 : Int32)
        · skip
          have pre24 : ∀ t, Steps p.tables e below (T2.setTop (mkF m 31 #[.val (.int p1)] [])) t → Steps p.tables e below (s₁.setTop (entryFrame m #[(.int p1)] 1)) t := by
            refine fun t k => pre23 t ?_
            show Steps p.tables e below (T2.setTop (mkF m 22 #[.val (.int p1)] [(.int (65 : Int32)), (.int p1)])) _
            refine XS.icmpYes X2.here hx rfl (pc0 := 22) (pc' := 31) rfl (hb hby d1_22) rfl (tlt hc22).1 (by decide) (by decide) ?_
            exact k
          have pre25 : ∀ t, Steps p.tables e below (T2.setTop (mkF m 34 #[.val (.int p1)] [(.int (95 : Int32)), (.int p1)])) t → Steps p.tables e below (s₁.setTop (entryFrame m #[(.int p1)] 1)) t := by
            refine fun t k => pre24 t ?_
            show Steps p.tables e below (T2.setTop (mkF m 31 #[.val (.int p1)] [])) _
            refine XS.iloadN X2.here hx rfl (hb hby d1_31) rfl ?_
            show Steps p.tables e below (T2.setTop (mkF m 32 #[.val (.int p1)] [(.int p1)])) _
            refine XS.bipush X2.here hx rfl (hb hby d1_32) ?_
            exact k
          by_cases hc34 : p1 = (95 : Int32)
          · skip
            have pre26 : ∀ t, Steps p.tables e below (T2.setTop (mkF m 37 #[.val (.int p1)] [])) t → Steps p.tables e below (s₁.setTop (entryFrame m #[(.int p1)] 1)) t := by
              refine fun t k => pre25 t ?_
              show Steps p.tables e below (T2.setTop (mkF m 34 #[.val (.int p1)] [(.int (95 : Int32)), (.int p1)])) _
              refine XS.icmpNo X2.here hx rfl (hb hby d1_34) rfl (teq hc34).2 ?_
              exact k
            obtain ⟨fs, hr, hrun, hended, hW, hsame⟩ := X2.leave (v := some (.int (1 : Int32))) (fun h => by rw [Bd.returns] at h; cases h)
            refine ⟨_, _, pre26 _ ?_, hrun, hended, _, _, rfl, ?_, ⟨_, rfl⟩, hW, hsame.mono (by decide) (by decide)⟩
            · skip
              show Steps p.tables e below (T2.setTop (mkF m 37 #[.val (.int p1)] [])) _
              refine XS.iconst X2.here hx rfl (hb hby d1_37) ?_
              show Steps p.tables e below (T2.setTop (mkF m 38 #[.val (.int p1)] [(.int (1 : Int32))])) _
              refine XS.goto X2.here hx rfl (pc0 := 38) (pc' := 42) rfl (hb hby d1_38) (by decide) (by decide) ?_
              show Steps p.tables e below (T2.setTop (mkF m 42 #[.val (.int p1)] [(.int (1 : Int32))])) _
              exact retN X2 hx (t := .boolean) Bd.returns (by simp) (hb hby d1_42) hr
            · show Q1 Z p1 h0 n0 _ T2.heap _
              rw [ehq2]
              refine ⟨(1 : Int32), rfl, N2, rfl, ?_⟩
              simp only [Int32.lt_iff_toInt_lt, ← Int32.toInt_inj, Int32.reduceToInt, true_and, and_true, false_and, and_false, or_false, false_or, not_true_eq_false, not_false_eq_true] at hq2 hc4 hc10 hc16 hc22 hc34 ⊢ <;> omega
          · skip
            have pre27 : ∀ t, Steps p.tables e below (T2.setTop (mkF m 41 #[.val (.int p1)] [])) t → Steps p.tables e below (s₁.setTop (entryFrame m #[(.int p1)] 1)) t := by
              refine fun t k => pre25 t ?_
              show Steps p.tables e below (T2.setTop (mkF m 34 #[.val (.int p1)] [(.int (95 : Int32)), (.int p1)])) _
              refine XS.icmpYes X2.here hx rfl (pc0 := 34) (pc' := 41) rfl (hb hby d1_34) rfl (feq hc34).2 (by decide) (by decide) ?_
              exact k
            obtain ⟨fs, hr, hrun, hended, hW, hsame⟩ := X2.leave (v := some (.int (0 : Int32))) (fun h => by rw [Bd.returns] at h; cases h)
            refine ⟨_, _, pre27 _ ?_, hrun, hended, _, _, rfl, ?_, ⟨_, rfl⟩, hW, hsame.mono (by decide) (by decide)⟩
            · skip
              show Steps p.tables e below (T2.setTop (mkF m 41 #[.val (.int p1)] [])) _
              refine XS.iconst X2.here hx rfl (hb hby d1_41) ?_
              show Steps p.tables e below (T2.setTop (mkF m 42 #[.val (.int p1)] [(.int (0 : Int32))])) _
              exact retN X2 hx (t := .boolean) Bd.returns (by simp) (hb hby d1_42) hr
            · show Q1 Z p1 h0 n0 _ T2.heap _
              rw [ehq2]
              refine ⟨(0 : Int32), rfl, N2, rfl, ?_⟩
              simp only [Int32.lt_iff_toInt_lt, ← Int32.toInt_inj, Int32.reduceToInt, true_and, and_true, false_and, and_false, or_false, false_or, not_true_eq_false, not_false_eq_true] at hq2 hc4 hc10 hc16 hc22 hc34 ⊢ <;> omega
        · skip
          have pre28 : ∀ t, Steps p.tables e below (T2.setTop (mkF m 25 #[.val (.int p1)] [])) t → Steps p.tables e below (s₁.setTop (entryFrame m #[(.int p1)] 1)) t := by
            refine fun t k => pre23 t ?_
            show Steps p.tables e below (T2.setTop (mkF m 22 #[.val (.int p1)] [(.int (65 : Int32)), (.int p1)])) _
            refine XS.icmpNo X2.here hx rfl (hb hby d1_22) rfl (flt hc22).1 ?_
            exact k
          have pre29 : ∀ t, Steps p.tables e below (T2.setTop (mkF m 28 #[.val (.int p1)] [(.int (90 : Int32)), (.int p1)])) t → Steps p.tables e below (s₁.setTop (entryFrame m #[(.int p1)] 1)) t := by
            refine fun t k => pre28 t ?_
            show Steps p.tables e below (T2.setTop (mkF m 25 #[.val (.int p1)] [])) _
            refine XS.iloadN X2.here hx rfl (hb hby d1_25) rfl ?_
            show Steps p.tables e below (T2.setTop (mkF m 26 #[.val (.int p1)] [(.int p1)])) _
            refine XS.bipush X2.here hx rfl (hb hby d1_26) ?_
            exact k
          by_cases hc28 : (90 : Int32) < p1
          · skip
            have pre30 : ∀ t, Steps p.tables e below (T2.setTop (mkF m 31 #[.val (.int p1)] [])) t → Steps p.tables e below (s₁.setTop (entryFrame m #[(.int p1)] 1)) t := by
              refine fun t k => pre29 t ?_
              show Steps p.tables e below (T2.setTop (mkF m 28 #[.val (.int p1)] [(.int (90 : Int32)), (.int p1)])) _
              refine XS.icmpNo X2.here hx rfl (hb hby d1_28) rfl (tlt hc28).2.2.2 ?_
              exact k
            have pre31 : ∀ t, Steps p.tables e below (T2.setTop (mkF m 34 #[.val (.int p1)] [(.int (95 : Int32)), (.int p1)])) t → Steps p.tables e below (s₁.setTop (entryFrame m #[(.int p1)] 1)) t := by
              refine fun t k => pre30 t ?_
              show Steps p.tables e below (T2.setTop (mkF m 31 #[.val (.int p1)] [])) _
              refine XS.iloadN X2.here hx rfl (hb hby d1_31) rfl ?_
              show Steps p.tables e below (T2.setTop (mkF m 32 #[.val (.int p1)] [(.int p1)])) _
              refine XS.bipush X2.here hx rfl (hb hby d1_32) ?_
              exact k
            by_cases hc34 : p1 = (95 : Int32)
            · skip
              have pre32 : ∀ t, Steps p.tables e below (T2.setTop (mkF m 37 #[.val (.int p1)] [])) t → Steps p.tables e below (s₁.setTop (entryFrame m #[(.int p1)] 1)) t := by
                refine fun t k => pre31 t ?_
                show Steps p.tables e below (T2.setTop (mkF m 34 #[.val (.int p1)] [(.int (95 : Int32)), (.int p1)])) _
                refine XS.icmpNo X2.here hx rfl (hb hby d1_34) rfl (teq hc34).2 ?_
                exact k
              obtain ⟨fs, hr, hrun, hended, hW, hsame⟩ := X2.leave (v := some (.int (1 : Int32))) (fun h => by rw [Bd.returns] at h; cases h)
              refine ⟨_, _, pre32 _ ?_, hrun, hended, _, _, rfl, ?_, ⟨_, rfl⟩, hW, hsame.mono (by decide) (by decide)⟩
              · skip
                show Steps p.tables e below (T2.setTop (mkF m 37 #[.val (.int p1)] [])) _
                refine XS.iconst X2.here hx rfl (hb hby d1_37) ?_
                show Steps p.tables e below (T2.setTop (mkF m 38 #[.val (.int p1)] [(.int (1 : Int32))])) _
                refine XS.goto X2.here hx rfl (pc0 := 38) (pc' := 42) rfl (hb hby d1_38) (by decide) (by decide) ?_
                show Steps p.tables e below (T2.setTop (mkF m 42 #[.val (.int p1)] [(.int (1 : Int32))])) _
                exact retN X2 hx (t := .boolean) Bd.returns (by simp) (hb hby d1_42) hr
              · show Q1 Z p1 h0 n0 _ T2.heap _
                rw [ehq2]
                refine ⟨(1 : Int32), rfl, N2, rfl, ?_⟩
                simp only [Int32.lt_iff_toInt_lt, ← Int32.toInt_inj, Int32.reduceToInt, true_and, and_true, false_and, and_false, or_false, false_or, not_true_eq_false, not_false_eq_true] at hq2 hc4 hc10 hc16 hc22 hc28 hc34 ⊢ <;> omega
            · skip
              have pre33 : ∀ t, Steps p.tables e below (T2.setTop (mkF m 41 #[.val (.int p1)] [])) t → Steps p.tables e below (s₁.setTop (entryFrame m #[(.int p1)] 1)) t := by
                refine fun t k => pre31 t ?_
                show Steps p.tables e below (T2.setTop (mkF m 34 #[.val (.int p1)] [(.int (95 : Int32)), (.int p1)])) _
                refine XS.icmpYes X2.here hx rfl (pc0 := 34) (pc' := 41) rfl (hb hby d1_34) rfl (feq hc34).2 (by decide) (by decide) ?_
                exact k
              obtain ⟨fs, hr, hrun, hended, hW, hsame⟩ := X2.leave (v := some (.int (0 : Int32))) (fun h => by rw [Bd.returns] at h; cases h)
              refine ⟨_, _, pre33 _ ?_, hrun, hended, _, _, rfl, ?_, ⟨_, rfl⟩, hW, hsame.mono (by decide) (by decide)⟩
              · skip
                show Steps p.tables e below (T2.setTop (mkF m 41 #[.val (.int p1)] [])) _
                refine XS.iconst X2.here hx rfl (hb hby d1_41) ?_
                show Steps p.tables e below (T2.setTop (mkF m 42 #[.val (.int p1)] [(.int (0 : Int32))])) _
                exact retN X2 hx (t := .boolean) Bd.returns (by simp) (hb hby d1_42) hr
              · show Q1 Z p1 h0 n0 _ T2.heap _
                rw [ehq2]
                refine ⟨(0 : Int32), rfl, N2, rfl, ?_⟩
                simp only [Int32.lt_iff_toInt_lt, ← Int32.toInt_inj, Int32.reduceToInt, true_and, and_true, false_and, and_false, or_false, false_or, not_true_eq_false, not_false_eq_true] at hq2 hc4 hc10 hc16 hc22 hc28 hc34 ⊢ <;> omega
          · skip
            have pre34 : ∀ t, Steps p.tables e below (T2.setTop (mkF m 37 #[.val (.int p1)] [])) t → Steps p.tables e below (s₁.setTop (entryFrame m #[(.int p1)] 1)) t := by
              refine fun t k => pre29 t ?_
              show Steps p.tables e below (T2.setTop (mkF m 28 #[.val (.int p1)] [(.int (90 : Int32)), (.int p1)])) _
              refine XS.icmpYes X2.here hx rfl (pc0 := 28) (pc' := 37) rfl (hb hby d1_28) rfl (flt hc28).2.2.2 (by decide) (by decide) ?_
              exact k
            obtain ⟨fs, hr, hrun, hended, hW, hsame⟩ := X2.leave (v := some (.int (1 : Int32))) (fun h => by rw [Bd.returns] at h; cases h)
            refine ⟨_, _, pre34 _ ?_, hrun, hended, _, _, rfl, ?_, ⟨_, rfl⟩, hW, hsame.mono (by decide) (by decide)⟩
            · skip
              show Steps p.tables e below (T2.setTop (mkF m 37 #[.val (.int p1)] [])) _
              refine XS.iconst X2.here hx rfl (hb hby d1_37) ?_
              show Steps p.tables e below (T2.setTop (mkF m 38 #[.val (.int p1)] [(.int (1 : Int32))])) _
              refine XS.goto X2.here hx rfl (pc0 := 38) (pc' := 42) rfl (hb hby d1_38) (by decide) (by decide) ?_
              show Steps p.tables e below (T2.setTop (mkF m 42 #[.val (.int p1)] [(.int (1 : Int32))])) _
              exact retN X2 hx (t := .boolean) Bd.returns (by simp) (hb hby d1_42) hr
            · show Q1 Z p1 h0 n0 _ T2.heap _
              rw [ehq2]
              refine ⟨(1 : Int32), rfl, N2, rfl, ?_⟩
              simp only [Int32.lt_iff_toInt_lt, ← Int32.toInt_inj, Int32.reduceToInt, true_and, and_true, false_and, and_false, or_false, false_or, not_true_eq_false, not_false_eq_true] at hq2 hc4 hc10 hc16 hc22 hc28 ⊢ <;> omega
      · skip
        have pre35 : ∀ t, Steps p.tables e below (T2.setTop (mkF m 37 #[.val (.int p1)] [])) t → Steps p.tables e below (s₁.setTop (entryFrame m #[(.int p1)] 1)) t := by
          refine fun t k => pre21 t ?_
          show Steps p.tables e below (T2.setTop (mkF m 16 #[.val (.int p1)] [(.int (122 : Int32)), (.int p1)])) _
          refine XS.icmpYes X2.here hx rfl (pc0 := 16) (pc' := 37) rfl (hb hby d1_16) rfl (flt hc16).2.2.2 (by decide) (by decide) ?_
          exact k
        obtain ⟨fs, hr, hrun, hended, hW, hsame⟩ := X2.leave (v := some (.int (1 : Int32))) (fun h => by rw [Bd.returns] at h; cases h)
        refine ⟨_, _, pre35 _ ?_, hrun, hended, _, _, rfl, ?_, ⟨_, rfl⟩, hW, hsame.mono (by decide) (by decide)⟩
        · skip
          show Steps p.tables e below (T2.setTop (mkF m 37 #[.val (.int p1)] [])) _
          refine XS.iconst X2.here hx rfl (hb hby d1_37) ?_
          show Steps p.tables e below (T2.setTop (mkF m 38 #[.val (.int p1)] [(.int (1 : Int32))])) _
          refine XS.goto X2.here hx rfl (pc0 := 38) (pc' := 42) rfl (hb hby d1_38) (by decide) (by decide) ?_
          show Steps p.tables e below (T2.setTop (mkF m 42 #[.val (.int p1)] [(.int (1 : Int32))])) _
          exact retN X2 hx (t := .boolean) Bd.returns (by simp) (hb hby d1_42) hr
        · show Q1 Z p1 h0 n0 _ T2.heap _
          rw [ehq2]
          refine ⟨(1 : Int32), rfl, N2, rfl, ?_⟩
          simp only [Int32.lt_iff_toInt_lt, ← Int32.toInt_inj, Int32.reduceToInt, true_and, and_true, false_and, and_false, or_false, false_or, not_true_eq_false, not_false_eq_true] at hq2 hc4 hc10 hc16 ⊢ <;> omega
  · skip
    have pre36 : ∀ t, Steps p.tables e below (T2.setTop (mkF m 37 #[.val (.int p1)] [])) t → Steps p.tables e below (s₁.setTop (entryFrame m #[(.int p1)] 1)) t := by
      refine fun t k => pre4 t ?_
      show Steps p.tables e below (T2.setTop (mkF m 4 #[.val (.int p1)] [(.int r3)])) _
      refine XS.ifYes X2.here hx rfl (pc0 := 4) (pc' := 37) rfl (hb hby d1_4) rfl ((if0 _ _).trans (feq hc4).2) (by decide) (by decide) ?_
      exact k
    obtain ⟨fs, hr, hrun, hended, hW, hsame⟩ := X2.leave (v := some (.int (1 : Int32))) (fun h => by rw [Bd.returns] at h; cases h)
    refine ⟨_, _, pre36 _ ?_, hrun, hended, _, _, rfl, ?_, ⟨_, rfl⟩, hW, hsame.mono (by decide) (by decide)⟩
    · skip
      show Steps p.tables e below (T2.setTop (mkF m 37 #[.val (.int p1)] [])) _
      refine XS.iconst X2.here hx rfl (hb hby d1_37) ?_
      show Steps p.tables e below (T2.setTop (mkF m 38 #[.val (.int p1)] [(.int (1 : Int32))])) _
      refine XS.goto X2.here hx rfl (pc0 := 38) (pc' := 42) rfl (hb hby d1_38) (by decide) (by decide) ?_
      show Steps p.tables e below (T2.setTop (mkF m 42 #[.val (.int p1)] [(.int (1 : Int32))])) _
      exact retN X2 hx (t := .boolean) Bd.returns (by simp) (hb hby d1_42) hr
    · show Q1 Z p1 h0 n0 _ T2.heap _
      rw [ehq2]
      refine ⟨(1 : Int32), rfl, N2, rfl, ?_⟩
      simp only [Int32.lt_iff_toInt_lt, ← Int32.toInt_inj, Int32.reduceToInt, true_and, and_true, false_and, and_false, or_false, false_or, not_true_eq_false, not_false_eq_true] at hq2 hc4 ⊢ <;> omega
/-! body 0 -/
theorem pn_0 : plainName "com/example/tidemark/tidemark/TokensIsWordCharacterPinLaw" = true := by first | (simp [plainName, overriddenIn]; done) | decide +kernel
theorem pd0_0 : parseMethodDescriptor "(I)Z" = some ⟨[.int], some .boolean⟩ := by decide +kernel
theorem ef_0 (m : MethodId) (p1 : Int32) (p2 : Int32) : entryFrame m #[(.int p1), (.int p2)] maxLocals = mkF m 0 #[.val (.int p1), .val (.int p2), .unset, .unset, .unset, .unset, .unset] [] := by first | (simp [entryFrame, mkF, argsToLocals, Value.category, maxLocals]; done) | rfl
def Q0 (Z : State) (p1 : Int32) (p2 : Int32) (h0 : Heap) (n0 : Nat) (v : Option Value) (h : Heap) (L : List Loc) : Prop := v = some (.int 1) ∧ Fr n0 L
set_option maxRecDepth 65536 in
set_option maxHeartbeats 40000000 in
theorem rm0 (l : Launch) (Z : State) (a0 : Array Value) (hw : ∀ d ∈ tables_1, d.before a0 Z = true) (ws : List Jvm.Cond) (p1 : Int32) (p2 : Int32) (h0 : Heap) (n0 : Nat) (Z0 : n0 ≤ h0.size)  :
    MetFree l x (head1 (Jvm.Cond.code x code maxLocals ret :: ws) room_1) (fun a U => a = #[(.int p1), (.int p2)] ∧ Z.Warmed39 U.vm ∧ U.heap = h0) (fun _ _ _ _ _ => True) (fun _ U o U' => ∃ v L, o = .returned v ∧ Q0 Z p1 p2 h0 n0 v U'.heap L ∧ FrameEnd U o U' L room_1.cells room_1.slots) := by
  refine MetFree.of_bodySF (plainFor_of_name pn_0) hisR ?_
  intro p e s m args below meth c s₁ Bd hml0 hP hK
  obtain ⟨rfl, hZ, hh⟩ := hP
  have hx := Bd.exec
  have hby := Bd.bytes
  have hml : c.maxLocals = 7 := hml0
  have hown : s.vm.findClass "com/example/tidemark/tidemark/TokensIsWordCharacterPinLaw" = some m.cls := findClass_of_methodNamed Bd.named
  have hnm := (name_of_methodNamed Bd.named Bd.method).1
  have X0 : Stand p l e room_1 s m #[(.int p1), (.int p2)] below meth c s₁ [] 0 0 := Stand.of_body Bd
  have e0 : s₁.heap = h0 := by rw [← hh, Bd.state]; rfl
  have N0 := Fr.nil n0
  have pre0 : ∀ t, Steps p.tables e below (s₁.setTop (mkF m 0 #[.val (.int p1), .val (.int p2), .unset, .unset, .unset, .unset, .unset] [])) t → Steps p.tables e below (s₁.setTop (entryFrame m #[(.int p1), (.int p2)] maxLocals)) t := fun t k => castTop (ef_0 m p1 p2) k
  obtain ⟨v1, hj2, pre2⟩ : ∃ v1 : Int32, (((p2 &&& (1 : Int32)) = (0 : Int32) ∧ v1 = (p1 &&& (255 : Int32))) ∨ (¬ ((p2 &&& (1 : Int32)) = (0 : Int32)) ∧ v1 = p1)) ∧ (∀ t, Steps p.tables e below (s₁.setTop (mkF m 15 #[.val (.int p1), .val (.int p2), .unset, .unset, .unset, .unset, .unset] [(.int v1)])) t → Steps p.tables e below (s₁.setTop (entryFrame m #[(.int p1), (.int p2)] maxLocals)) t) := by
    by_cases hb0_3 : (p2 &&& (1 : Int32)) = (0 : Int32)
    · skip
      refine ⟨(p1 &&& (255 : Int32)), Or.inl (⟨hb0_3, rfl⟩), fun t k => pre0 t ?_⟩
      show Steps p.tables e below (s₁.setTop (mkF m 0 #[.val (.int p1), .val (.int p2), .unset, .unset, .unset, .unset, .unset] [])) _
      refine XS.iloadN X0.here hx rfl (hb hby at_0) rfl ?_
      show Steps p.tables e below (s₁.setTop (mkF m 1 #[.val (.int p1), .val (.int p2), .unset, .unset, .unset, .unset, .unset] [(.int p2)])) _
      refine XS.iconst X0.here hx rfl (hb hby at_1) ?_
      show Steps p.tables e below (s₁.setTop (mkF m 2 #[.val (.int p1), .val (.int p2), .unset, .unset, .unset, .unset, .unset] [(.int (1 : Int32)), (.int p2)])) _
      refine XS.iand X0.here hx rfl (hb hby at_2) rfl ?_
      show Steps p.tables e below (s₁.setTop (mkF m 3 #[.val (.int p1), .val (.int p2), .unset, .unset, .unset, .unset, .unset] [(.int (p2 &&& (1 : Int32)))])) _
      refine XS.ifYes X0.here hx rfl (pc0 := 3) (pc' := 10) rfl (hb hby at_3) rfl ((if0 _ _).trans (teq hb0_3).1) (by decide) (by decide) ?_
      show Steps p.tables e below (s₁.setTop (mkF m 10 #[.val (.int p1), .val (.int p2), .unset, .unset, .unset, .unset, .unset] [])) _
      refine XS.iloadN X0.here hx rfl (hb hby at_10) rfl ?_
      show Steps p.tables e below (s₁.setTop (mkF m 11 #[.val (.int p1), .val (.int p2), .unset, .unset, .unset, .unset, .unset] [(.int p1)])) _
      refine XS.sipush X0.here hx rfl (hb hby at_11) ?_
      show Steps p.tables e below (s₁.setTop (mkF m 14 #[.val (.int p1), .val (.int p2), .unset, .unset, .unset, .unset, .unset] [(.int (255 : Int32)), (.int p1)])) _
      refine XS.iand X0.here hx rfl (hb hby at_14) rfl ?_
      exact k
    · skip
      refine ⟨p1, Or.inr (⟨hb0_3, rfl⟩), fun t k => pre0 t ?_⟩
      show Steps p.tables e below (s₁.setTop (mkF m 0 #[.val (.int p1), .val (.int p2), .unset, .unset, .unset, .unset, .unset] [])) _
      refine XS.iloadN X0.here hx rfl (hb hby at_0) rfl ?_
      show Steps p.tables e below (s₁.setTop (mkF m 1 #[.val (.int p1), .val (.int p2), .unset, .unset, .unset, .unset, .unset] [(.int p2)])) _
      refine XS.iconst X0.here hx rfl (hb hby at_1) ?_
      show Steps p.tables e below (s₁.setTop (mkF m 2 #[.val (.int p1), .val (.int p2), .unset, .unset, .unset, .unset, .unset] [(.int (1 : Int32)), (.int p2)])) _
      refine XS.iand X0.here hx rfl (hb hby at_2) rfl ?_
      show Steps p.tables e below (s₁.setTop (mkF m 3 #[.val (.int p1), .val (.int p2), .unset, .unset, .unset, .unset, .unset] [(.int (p2 &&& (1 : Int32)))])) _
      refine XS.ifNo X0.here hx rfl (hb hby at_3) rfl ((if0 _ _).trans (feq hb0_3).1) ?_
      show Steps p.tables e below (s₁.setTop (mkF m 6 #[.val (.int p1), .val (.int p2), .unset, .unset, .unset, .unset, .unset] [])) _
      refine XS.iloadN X0.here hx rfl (hb hby at_6) rfl ?_
      show Steps p.tables e below (s₁.setTop (mkF m 7 #[.val (.int p1), .val (.int p2), .unset, .unset, .unset, .unset, .unset] [(.int p1)])) _
      refine XS.goto X0.here hx rfl (pc0 := 7) (pc' := 15) rfl (hb hby at_7) (by decide) (by decide) ?_
      exact k
  obtain ⟨v3, hj4, pre4⟩ : ∃ v3 : Int32, ((v1 < (48 : Int32) ∧ v3 = (0 : Int32)) ∨ (¬ (v1 < (48 : Int32)) ∧ (122 : Int32) < v1 ∧ v3 = (0 : Int32)) ∨ (¬ (v1 < (48 : Int32)) ∧ ¬ ((122 : Int32) < v1) ∧ v3 = (1 : Int32))) ∧ (∀ t, Steps p.tables e below (s₁.setTop (mkF m 33 #[.val (.int p1), .val (.int p2), .val (.int v1), .unset, .unset, .unset, .unset] [(.int v3)])) t → Steps p.tables e below (s₁.setTop (entryFrame m #[(.int p1), (.int p2)] maxLocals)) t) := by
    by_cases hb0_19 : v1 < (48 : Int32)
    · skip
      refine ⟨(0 : Int32), Or.inl (⟨hb0_19, rfl⟩), fun t k => pre2 t ?_⟩
      show Steps p.tables e below (s₁.setTop (mkF m 15 #[.val (.int p1), .val (.int p2), .unset, .unset, .unset, .unset, .unset] [(.int v1)])) _
      refine XS.istoreN X0.here hx rfl (hb hby at_15) rfl (l' := #[.val (.int p1), .val (.int p2), .val (.int v1), .unset, .unset, .unset, .unset]) rfl ?_
      show Steps p.tables e below (s₁.setTop (mkF m 16 #[.val (.int p1), .val (.int p2), .val (.int v1), .unset, .unset, .unset, .unset] [])) _
      refine XS.iloadN X0.here hx rfl (hb hby at_16) rfl ?_
      show Steps p.tables e below (s₁.setTop (mkF m 17 #[.val (.int p1), .val (.int p2), .val (.int v1), .unset, .unset, .unset, .unset] [(.int v1)])) _
      refine XS.bipush X0.here hx rfl (hb hby at_17) ?_
      show Steps p.tables e below (s₁.setTop (mkF m 19 #[.val (.int p1), .val (.int p2), .val (.int v1), .unset, .unset, .unset, .unset] [(.int (48 : Int32)), (.int v1)])) _
      refine XS.icmpYes X0.here hx rfl (pc0 := 19) (pc' := 32) rfl (hb hby at_19) rfl (tlt hb0_19).1 (by decide) (by decide) ?_
      show Steps p.tables e below (s₁.setTop (mkF m 32 #[.val (.int p1), .val (.int p2), .val (.int v1), .unset, .unset, .unset, .unset] [])) _
      refine XS.iconst X0.here hx rfl (hb hby at_32) ?_
      exact k
    · skip
      by_cases hb1_25 : (122 : Int32) < v1
      · skip
        refine ⟨(0 : Int32), Or.inr (Or.inl (⟨hb0_19, hb1_25, rfl⟩)), fun t k => pre2 t ?_⟩
        show Steps p.tables e below (s₁.setTop (mkF m 15 #[.val (.int p1), .val (.int p2), .unset, .unset, .unset, .unset, .unset] [(.int v1)])) _
        refine XS.istoreN X0.here hx rfl (hb hby at_15) rfl (l' := #[.val (.int p1), .val (.int p2), .val (.int v1), .unset, .unset, .unset, .unset]) rfl ?_
        show Steps p.tables e below (s₁.setTop (mkF m 16 #[.val (.int p1), .val (.int p2), .val (.int v1), .unset, .unset, .unset, .unset] [])) _
        refine XS.iloadN X0.here hx rfl (hb hby at_16) rfl ?_
        show Steps p.tables e below (s₁.setTop (mkF m 17 #[.val (.int p1), .val (.int p2), .val (.int v1), .unset, .unset, .unset, .unset] [(.int v1)])) _
        refine XS.bipush X0.here hx rfl (hb hby at_17) ?_
        show Steps p.tables e below (s₁.setTop (mkF m 19 #[.val (.int p1), .val (.int p2), .val (.int v1), .unset, .unset, .unset, .unset] [(.int (48 : Int32)), (.int v1)])) _
        refine XS.icmpNo X0.here hx rfl (hb hby at_19) rfl (flt hb0_19).1 ?_
        show Steps p.tables e below (s₁.setTop (mkF m 22 #[.val (.int p1), .val (.int p2), .val (.int v1), .unset, .unset, .unset, .unset] [])) _
        refine XS.iloadN X0.here hx rfl (hb hby at_22) rfl ?_
        show Steps p.tables e below (s₁.setTop (mkF m 23 #[.val (.int p1), .val (.int p2), .val (.int v1), .unset, .unset, .unset, .unset] [(.int v1)])) _
        refine XS.bipush X0.here hx rfl (hb hby at_23) ?_
        show Steps p.tables e below (s₁.setTop (mkF m 25 #[.val (.int p1), .val (.int p2), .val (.int v1), .unset, .unset, .unset, .unset] [(.int (122 : Int32)), (.int v1)])) _
        refine XS.icmpYes X0.here hx rfl (pc0 := 25) (pc' := 32) rfl (hb hby at_25) rfl (tlt hb1_25).2.2.1 (by decide) (by decide) ?_
        show Steps p.tables e below (s₁.setTop (mkF m 32 #[.val (.int p1), .val (.int p2), .val (.int v1), .unset, .unset, .unset, .unset] [])) _
        refine XS.iconst X0.here hx rfl (hb hby at_32) ?_
        exact k
      · skip
        refine ⟨(1 : Int32), Or.inr (Or.inr (⟨hb0_19, hb1_25, rfl⟩)), fun t k => pre2 t ?_⟩
        show Steps p.tables e below (s₁.setTop (mkF m 15 #[.val (.int p1), .val (.int p2), .unset, .unset, .unset, .unset, .unset] [(.int v1)])) _
        refine XS.istoreN X0.here hx rfl (hb hby at_15) rfl (l' := #[.val (.int p1), .val (.int p2), .val (.int v1), .unset, .unset, .unset, .unset]) rfl ?_
        show Steps p.tables e below (s₁.setTop (mkF m 16 #[.val (.int p1), .val (.int p2), .val (.int v1), .unset, .unset, .unset, .unset] [])) _
        refine XS.iloadN X0.here hx rfl (hb hby at_16) rfl ?_
        show Steps p.tables e below (s₁.setTop (mkF m 17 #[.val (.int p1), .val (.int p2), .val (.int v1), .unset, .unset, .unset, .unset] [(.int v1)])) _
        refine XS.bipush X0.here hx rfl (hb hby at_17) ?_
        show Steps p.tables e below (s₁.setTop (mkF m 19 #[.val (.int p1), .val (.int p2), .val (.int v1), .unset, .unset, .unset, .unset] [(.int (48 : Int32)), (.int v1)])) _
        refine XS.icmpNo X0.here hx rfl (hb hby at_19) rfl (flt hb0_19).1 ?_
        show Steps p.tables e below (s₁.setTop (mkF m 22 #[.val (.int p1), .val (.int p2), .val (.int v1), .unset, .unset, .unset, .unset] [])) _
        refine XS.iloadN X0.here hx rfl (hb hby at_22) rfl ?_
        show Steps p.tables e below (s₁.setTop (mkF m 23 #[.val (.int p1), .val (.int p2), .val (.int v1), .unset, .unset, .unset, .unset] [(.int v1)])) _
        refine XS.bipush X0.here hx rfl (hb hby at_23) ?_
        show Steps p.tables e below (s₁.setTop (mkF m 25 #[.val (.int p1), .val (.int p2), .val (.int v1), .unset, .unset, .unset, .unset] [(.int (122 : Int32)), (.int v1)])) _
        refine XS.icmpNo X0.here hx rfl (hb hby at_25) rfl (flt hb1_25).2.2.1 ?_
        show Steps p.tables e below (s₁.setTop (mkF m 28 #[.val (.int p1), .val (.int p2), .val (.int v1), .unset, .unset, .unset, .unset] [])) _
        refine XS.iconst X0.here hx rfl (hb hby at_28) ?_
        show Steps p.tables e below (s₁.setTop (mkF m 29 #[.val (.int p1), .val (.int p2), .val (.int v1), .unset, .unset, .unset, .unset] [(.int (1 : Int32))])) _
        refine XS.goto X0.here hx rfl (pc0 := 29) (pc' := 33) rfl (hb hby at_29) (by decide) (by decide) ?_
        exact k
  obtain ⟨v5, hj6, pre6⟩ : ∃ v5 : Int32, (((57 : Int32) < v1 ∧ v1 < (65 : Int32) ∧ v5 = (1 : Int32)) ∨ ((57 : Int32) < v1 ∧ ¬ (v1 < (65 : Int32)) ∧ v5 = (0 : Int32)) ∨ (¬ ((57 : Int32) < v1) ∧ v5 = (0 : Int32))) ∧ (∀ t, Steps p.tables e below (s₁.setTop (mkF m 51 #[.val (.int p1), .val (.int p2), .val (.int v1), .val (.int v3), .unset, .unset, .unset] [(.int v5)])) t → Steps p.tables e below (s₁.setTop (entryFrame m #[(.int p1), (.int p2)] maxLocals)) t) := by
    by_cases hb0_37 : (57 : Int32) < v1
    · skip
      by_cases hb1_43 : v1 < (65 : Int32)
      · skip
        refine ⟨(1 : Int32), Or.inl (⟨hb0_37, hb1_43, rfl⟩), fun t k => pre4 t ?_⟩
        show Steps p.tables e below (s₁.setTop (mkF m 33 #[.val (.int p1), .val (.int p2), .val (.int v1), .unset, .unset, .unset, .unset] [(.int v3)])) _
        refine XS.istoreN X0.here hx rfl (hb hby at_33) rfl (l' := #[.val (.int p1), .val (.int p2), .val (.int v1), .val (.int v3), .unset, .unset, .unset]) rfl ?_
        show Steps p.tables e below (s₁.setTop (mkF m 34 #[.val (.int p1), .val (.int p2), .val (.int v1), .val (.int v3), .unset, .unset, .unset] [])) _
        refine XS.iloadN X0.here hx rfl (hb hby at_34) rfl ?_
        show Steps p.tables e below (s₁.setTop (mkF m 35 #[.val (.int p1), .val (.int p2), .val (.int v1), .val (.int v3), .unset, .unset, .unset] [(.int v1)])) _
        refine XS.bipush X0.here hx rfl (hb hby at_35) ?_
        show Steps p.tables e below (s₁.setTop (mkF m 37 #[.val (.int p1), .val (.int p2), .val (.int v1), .val (.int v3), .unset, .unset, .unset] [(.int (57 : Int32)), (.int v1)])) _
        refine XS.icmpNo X0.here hx rfl (hb hby at_37) rfl (tlt hb0_37).2.2.2 ?_
        show Steps p.tables e below (s₁.setTop (mkF m 40 #[.val (.int p1), .val (.int p2), .val (.int v1), .val (.int v3), .unset, .unset, .unset] [])) _
        refine XS.iloadN X0.here hx rfl (hb hby at_40) rfl ?_
        show Steps p.tables e below (s₁.setTop (mkF m 41 #[.val (.int p1), .val (.int p2), .val (.int v1), .val (.int v3), .unset, .unset, .unset] [(.int v1)])) _
        refine XS.bipush X0.here hx rfl (hb hby at_41) ?_
        show Steps p.tables e below (s₁.setTop (mkF m 43 #[.val (.int p1), .val (.int p2), .val (.int v1), .val (.int v3), .unset, .unset, .unset] [(.int (65 : Int32)), (.int v1)])) _
        refine XS.icmpNo X0.here hx rfl (hb hby at_43) rfl (tlt hb1_43).2.1 ?_
        show Steps p.tables e below (s₁.setTop (mkF m 46 #[.val (.int p1), .val (.int p2), .val (.int v1), .val (.int v3), .unset, .unset, .unset] [])) _
        refine XS.iconst X0.here hx rfl (hb hby at_46) ?_
        show Steps p.tables e below (s₁.setTop (mkF m 47 #[.val (.int p1), .val (.int p2), .val (.int v1), .val (.int v3), .unset, .unset, .unset] [(.int (1 : Int32))])) _
        refine XS.goto X0.here hx rfl (pc0 := 47) (pc' := 51) rfl (hb hby at_47) (by decide) (by decide) ?_
        exact k
      · skip
        refine ⟨(0 : Int32), Or.inr (Or.inl (⟨hb0_37, hb1_43, rfl⟩)), fun t k => pre4 t ?_⟩
        show Steps p.tables e below (s₁.setTop (mkF m 33 #[.val (.int p1), .val (.int p2), .val (.int v1), .unset, .unset, .unset, .unset] [(.int v3)])) _
        refine XS.istoreN X0.here hx rfl (hb hby at_33) rfl (l' := #[.val (.int p1), .val (.int p2), .val (.int v1), .val (.int v3), .unset, .unset, .unset]) rfl ?_
        show Steps p.tables e below (s₁.setTop (mkF m 34 #[.val (.int p1), .val (.int p2), .val (.int v1), .val (.int v3), .unset, .unset, .unset] [])) _
        refine XS.iloadN X0.here hx rfl (hb hby at_34) rfl ?_
        show Steps p.tables e below (s₁.setTop (mkF m 35 #[.val (.int p1), .val (.int p2), .val (.int v1), .val (.int v3), .unset, .unset, .unset] [(.int v1)])) _
        refine XS.bipush X0.here hx rfl (hb hby at_35) ?_
        show Steps p.tables e below (s₁.setTop (mkF m 37 #[.val (.int p1), .val (.int p2), .val (.int v1), .val (.int v3), .unset, .unset, .unset] [(.int (57 : Int32)), (.int v1)])) _
        refine XS.icmpNo X0.here hx rfl (hb hby at_37) rfl (tlt hb0_37).2.2.2 ?_
        show Steps p.tables e below (s₁.setTop (mkF m 40 #[.val (.int p1), .val (.int p2), .val (.int v1), .val (.int v3), .unset, .unset, .unset] [])) _
        refine XS.iloadN X0.here hx rfl (hb hby at_40) rfl ?_
        show Steps p.tables e below (s₁.setTop (mkF m 41 #[.val (.int p1), .val (.int p2), .val (.int v1), .val (.int v3), .unset, .unset, .unset] [(.int v1)])) _
        refine XS.bipush X0.here hx rfl (hb hby at_41) ?_
        show Steps p.tables e below (s₁.setTop (mkF m 43 #[.val (.int p1), .val (.int p2), .val (.int v1), .val (.int v3), .unset, .unset, .unset] [(.int (65 : Int32)), (.int v1)])) _
        refine XS.icmpYes X0.here hx rfl (pc0 := 43) (pc' := 50) rfl (hb hby at_43) rfl (flt hb1_43).2.1 (by decide) (by decide) ?_
        show Steps p.tables e below (s₁.setTop (mkF m 50 #[.val (.int p1), .val (.int p2), .val (.int v1), .val (.int v3), .unset, .unset, .unset] [])) _
        refine XS.iconst X0.here hx rfl (hb hby at_50) ?_
        exact k
    · skip
      refine ⟨(0 : Int32), Or.inr (Or.inr (⟨hb0_37, rfl⟩)), fun t k => pre4 t ?_⟩
      show Steps p.tables e below (s₁.setTop (mkF m 33 #[.val (.int p1), .val (.int p2), .val (.int v1), .unset, .unset, .unset, .unset] [(.int v3)])) _
      refine XS.istoreN X0.here hx rfl (hb hby at_33) rfl (l' := #[.val (.int p1), .val (.int p2), .val (.int v1), .val (.int v3), .unset, .unset, .unset]) rfl ?_
      show Steps p.tables e below (s₁.setTop (mkF m 34 #[.val (.int p1), .val (.int p2), .val (.int v1), .val (.int v3), .unset, .unset, .unset] [])) _
      refine XS.iloadN X0.here hx rfl (hb hby at_34) rfl ?_
      show Steps p.tables e below (s₁.setTop (mkF m 35 #[.val (.int p1), .val (.int p2), .val (.int v1), .val (.int v3), .unset, .unset, .unset] [(.int v1)])) _
      refine XS.bipush X0.here hx rfl (hb hby at_35) ?_
      show Steps p.tables e below (s₁.setTop (mkF m 37 #[.val (.int p1), .val (.int p2), .val (.int v1), .val (.int v3), .unset, .unset, .unset] [(.int (57 : Int32)), (.int v1)])) _
      refine XS.icmpYes X0.here hx rfl (pc0 := 37) (pc' := 50) rfl (hb hby at_37) rfl (flt hb0_37).2.2.2 (by decide) (by decide) ?_
      show Steps p.tables e below (s₁.setTop (mkF m 50 #[.val (.int p1), .val (.int p2), .val (.int v1), .val (.int v3), .unset, .unset, .unset] [])) _
      refine XS.iconst X0.here hx rfl (hb hby at_50) ?_
      exact k
  obtain ⟨v7, hj8, pre8⟩ : ∃ v7 : Int32, (((90 : Int32) < v1 ∧ v1 < (97 : Int32) ∧ v1 = (95 : Int32) ∧ v7 = (0 : Int32)) ∨ ((90 : Int32) < v1 ∧ v1 < (97 : Int32) ∧ ¬ (v1 = (95 : Int32)) ∧ v7 = (1 : Int32)) ∨ ((90 : Int32) < v1 ∧ ¬ (v1 < (97 : Int32)) ∧ v7 = (0 : Int32)) ∨ (¬ ((90 : Int32) < v1) ∧ v7 = (0 : Int32))) ∧ (∀ t, Steps p.tables e below (s₁.setTop (mkF m 76 #[.val (.int p1), .val (.int p2), .val (.int v1), .val (.int v3), .val (.int v5), .unset, .unset] [(.int v7)])) t → Steps p.tables e below (s₁.setTop (entryFrame m #[(.int p1), (.int p2)] maxLocals)) t) := by
    by_cases hb0_56 : (90 : Int32) < v1
    · skip
      by_cases hb1_62 : v1 < (97 : Int32)
      · skip
        by_cases hb2_68 : v1 = (95 : Int32)
        · skip
          refine ⟨(0 : Int32), Or.inl (⟨hb0_56, hb1_62, hb2_68, rfl⟩), fun t k => pre6 t ?_⟩
          show Steps p.tables e below (s₁.setTop (mkF m 51 #[.val (.int p1), .val (.int p2), .val (.int v1), .val (.int v3), .unset, .unset, .unset] [(.int v5)])) _
          refine XS.istore X0.here hx rfl (hb hby at_51) rfl (l' := #[.val (.int p1), .val (.int p2), .val (.int v1), .val (.int v3), .val (.int v5), .unset, .unset]) rfl ?_
          show Steps p.tables e below (s₁.setTop (mkF m 53 #[.val (.int p1), .val (.int p2), .val (.int v1), .val (.int v3), .val (.int v5), .unset, .unset] [])) _
          refine XS.iloadN X0.here hx rfl (hb hby at_53) rfl ?_
          show Steps p.tables e below (s₁.setTop (mkF m 54 #[.val (.int p1), .val (.int p2), .val (.int v1), .val (.int v3), .val (.int v5), .unset, .unset] [(.int v1)])) _
          refine XS.bipush X0.here hx rfl (hb hby at_54) ?_
          show Steps p.tables e below (s₁.setTop (mkF m 56 #[.val (.int p1), .val (.int p2), .val (.int v1), .val (.int v3), .val (.int v5), .unset, .unset] [(.int (90 : Int32)), (.int v1)])) _
          refine XS.icmpNo X0.here hx rfl (hb hby at_56) rfl (tlt hb0_56).2.2.2 ?_
          show Steps p.tables e below (s₁.setTop (mkF m 59 #[.val (.int p1), .val (.int p2), .val (.int v1), .val (.int v3), .val (.int v5), .unset, .unset] [])) _
          refine XS.iloadN X0.here hx rfl (hb hby at_59) rfl ?_
          show Steps p.tables e below (s₁.setTop (mkF m 60 #[.val (.int p1), .val (.int p2), .val (.int v1), .val (.int v3), .val (.int v5), .unset, .unset] [(.int v1)])) _
          refine XS.bipush X0.here hx rfl (hb hby at_60) ?_
          show Steps p.tables e below (s₁.setTop (mkF m 62 #[.val (.int p1), .val (.int p2), .val (.int v1), .val (.int v3), .val (.int v5), .unset, .unset] [(.int (97 : Int32)), (.int v1)])) _
          refine XS.icmpNo X0.here hx rfl (hb hby at_62) rfl (tlt hb1_62).2.1 ?_
          show Steps p.tables e below (s₁.setTop (mkF m 65 #[.val (.int p1), .val (.int p2), .val (.int v1), .val (.int v3), .val (.int v5), .unset, .unset] [])) _
          refine XS.iloadN X0.here hx rfl (hb hby at_65) rfl ?_
          show Steps p.tables e below (s₁.setTop (mkF m 66 #[.val (.int p1), .val (.int p2), .val (.int v1), .val (.int v3), .val (.int v5), .unset, .unset] [(.int v1)])) _
          refine XS.bipush X0.here hx rfl (hb hby at_66) ?_
          show Steps p.tables e below (s₁.setTop (mkF m 68 #[.val (.int p1), .val (.int p2), .val (.int v1), .val (.int v3), .val (.int v5), .unset, .unset] [(.int (95 : Int32)), (.int v1)])) _
          refine XS.icmpYes X0.here hx rfl (pc0 := 68) (pc' := 75) rfl (hb hby at_68) rfl (teq hb2_68).1 (by decide) (by decide) ?_
          show Steps p.tables e below (s₁.setTop (mkF m 75 #[.val (.int p1), .val (.int p2), .val (.int v1), .val (.int v3), .val (.int v5), .unset, .unset] [])) _
          refine XS.iconst X0.here hx rfl (hb hby at_75) ?_
          exact k
        · skip
          refine ⟨(1 : Int32), Or.inr (Or.inl (⟨hb0_56, hb1_62, hb2_68, rfl⟩)), fun t k => pre6 t ?_⟩
          show Steps p.tables e below (s₁.setTop (mkF m 51 #[.val (.int p1), .val (.int p2), .val (.int v1), .val (.int v3), .unset, .unset, .unset] [(.int v5)])) _
          refine XS.istore X0.here hx rfl (hb hby at_51) rfl (l' := #[.val (.int p1), .val (.int p2), .val (.int v1), .val (.int v3), .val (.int v5), .unset, .unset]) rfl ?_
          show Steps p.tables e below (s₁.setTop (mkF m 53 #[.val (.int p1), .val (.int p2), .val (.int v1), .val (.int v3), .val (.int v5), .unset, .unset] [])) _
          refine XS.iloadN X0.here hx rfl (hb hby at_53) rfl ?_
          show Steps p.tables e below (s₁.setTop (mkF m 54 #[.val (.int p1), .val (.int p2), .val (.int v1), .val (.int v3), .val (.int v5), .unset, .unset] [(.int v1)])) _
          refine XS.bipush X0.here hx rfl (hb hby at_54) ?_
          show Steps p.tables e below (s₁.setTop (mkF m 56 #[.val (.int p1), .val (.int p2), .val (.int v1), .val (.int v3), .val (.int v5), .unset, .unset] [(.int (90 : Int32)), (.int v1)])) _
          refine XS.icmpNo X0.here hx rfl (hb hby at_56) rfl (tlt hb0_56).2.2.2 ?_
          show Steps p.tables e below (s₁.setTop (mkF m 59 #[.val (.int p1), .val (.int p2), .val (.int v1), .val (.int v3), .val (.int v5), .unset, .unset] [])) _
          refine XS.iloadN X0.here hx rfl (hb hby at_59) rfl ?_
          show Steps p.tables e below (s₁.setTop (mkF m 60 #[.val (.int p1), .val (.int p2), .val (.int v1), .val (.int v3), .val (.int v5), .unset, .unset] [(.int v1)])) _
          refine XS.bipush X0.here hx rfl (hb hby at_60) ?_
          show Steps p.tables e below (s₁.setTop (mkF m 62 #[.val (.int p1), .val (.int p2), .val (.int v1), .val (.int v3), .val (.int v5), .unset, .unset] [(.int (97 : Int32)), (.int v1)])) _
          refine XS.icmpNo X0.here hx rfl (hb hby at_62) rfl (tlt hb1_62).2.1 ?_
          show Steps p.tables e below (s₁.setTop (mkF m 65 #[.val (.int p1), .val (.int p2), .val (.int v1), .val (.int v3), .val (.int v5), .unset, .unset] [])) _
          refine XS.iloadN X0.here hx rfl (hb hby at_65) rfl ?_
          show Steps p.tables e below (s₁.setTop (mkF m 66 #[.val (.int p1), .val (.int p2), .val (.int v1), .val (.int v3), .val (.int v5), .unset, .unset] [(.int v1)])) _
          refine XS.bipush X0.here hx rfl (hb hby at_66) ?_
          show Steps p.tables e below (s₁.setTop (mkF m 68 #[.val (.int p1), .val (.int p2), .val (.int v1), .val (.int v3), .val (.int v5), .unset, .unset] [(.int (95 : Int32)), (.int v1)])) _
          refine XS.icmpNo X0.here hx rfl (hb hby at_68) rfl (feq hb2_68).1 ?_
          show Steps p.tables e below (s₁.setTop (mkF m 71 #[.val (.int p1), .val (.int p2), .val (.int v1), .val (.int v3), .val (.int v5), .unset, .unset] [])) _
          refine XS.iconst X0.here hx rfl (hb hby at_71) ?_
          show Steps p.tables e below (s₁.setTop (mkF m 72 #[.val (.int p1), .val (.int p2), .val (.int v1), .val (.int v3), .val (.int v5), .unset, .unset] [(.int (1 : Int32))])) _
          refine XS.goto X0.here hx rfl (pc0 := 72) (pc' := 76) rfl (hb hby at_72) (by decide) (by decide) ?_
          exact k
      · skip
        refine ⟨(0 : Int32), Or.inr (Or.inr (Or.inl (⟨hb0_56, hb1_62, rfl⟩))), fun t k => pre6 t ?_⟩
        show Steps p.tables e below (s₁.setTop (mkF m 51 #[.val (.int p1), .val (.int p2), .val (.int v1), .val (.int v3), .unset, .unset, .unset] [(.int v5)])) _
        refine XS.istore X0.here hx rfl (hb hby at_51) rfl (l' := #[.val (.int p1), .val (.int p2), .val (.int v1), .val (.int v3), .val (.int v5), .unset, .unset]) rfl ?_
        show Steps p.tables e below (s₁.setTop (mkF m 53 #[.val (.int p1), .val (.int p2), .val (.int v1), .val (.int v3), .val (.int v5), .unset, .unset] [])) _
        refine XS.iloadN X0.here hx rfl (hb hby at_53) rfl ?_
        show Steps p.tables e below (s₁.setTop (mkF m 54 #[.val (.int p1), .val (.int p2), .val (.int v1), .val (.int v3), .val (.int v5), .unset, .unset] [(.int v1)])) _
        refine XS.bipush X0.here hx rfl (hb hby at_54) ?_
        show Steps p.tables e below (s₁.setTop (mkF m 56 #[.val (.int p1), .val (.int p2), .val (.int v1), .val (.int v3), .val (.int v5), .unset, .unset] [(.int (90 : Int32)), (.int v1)])) _
        refine XS.icmpNo X0.here hx rfl (hb hby at_56) rfl (tlt hb0_56).2.2.2 ?_
        show Steps p.tables e below (s₁.setTop (mkF m 59 #[.val (.int p1), .val (.int p2), .val (.int v1), .val (.int v3), .val (.int v5), .unset, .unset] [])) _
        refine XS.iloadN X0.here hx rfl (hb hby at_59) rfl ?_
        show Steps p.tables e below (s₁.setTop (mkF m 60 #[.val (.int p1), .val (.int p2), .val (.int v1), .val (.int v3), .val (.int v5), .unset, .unset] [(.int v1)])) _
        refine XS.bipush X0.here hx rfl (hb hby at_60) ?_
        show Steps p.tables e below (s₁.setTop (mkF m 62 #[.val (.int p1), .val (.int p2), .val (.int v1), .val (.int v3), .val (.int v5), .unset, .unset] [(.int (97 : Int32)), (.int v1)])) _
        refine XS.icmpYes X0.here hx rfl (pc0 := 62) (pc' := 75) rfl (hb hby at_62) rfl (flt hb1_62).2.1 (by decide) (by decide) ?_
        show Steps p.tables e below (s₁.setTop (mkF m 75 #[.val (.int p1), .val (.int p2), .val (.int v1), .val (.int v3), .val (.int v5), .unset, .unset] [])) _
        refine XS.iconst X0.here hx rfl (hb hby at_75) ?_
        exact k
    · skip
      refine ⟨(0 : Int32), Or.inr (Or.inr (Or.inr (⟨hb0_56, rfl⟩))), fun t k => pre6 t ?_⟩
      show Steps p.tables e below (s₁.setTop (mkF m 51 #[.val (.int p1), .val (.int p2), .val (.int v1), .val (.int v3), .unset, .unset, .unset] [(.int v5)])) _
      refine XS.istore X0.here hx rfl (hb hby at_51) rfl (l' := #[.val (.int p1), .val (.int p2), .val (.int v1), .val (.int v3), .val (.int v5), .unset, .unset]) rfl ?_
      show Steps p.tables e below (s₁.setTop (mkF m 53 #[.val (.int p1), .val (.int p2), .val (.int v1), .val (.int v3), .val (.int v5), .unset, .unset] [])) _
      refine XS.iloadN X0.here hx rfl (hb hby at_53) rfl ?_
      show Steps p.tables e below (s₁.setTop (mkF m 54 #[.val (.int p1), .val (.int p2), .val (.int v1), .val (.int v3), .val (.int v5), .unset, .unset] [(.int v1)])) _
      refine XS.bipush X0.here hx rfl (hb hby at_54) ?_
      show Steps p.tables e below (s₁.setTop (mkF m 56 #[.val (.int p1), .val (.int p2), .val (.int v1), .val (.int v3), .val (.int v5), .unset, .unset] [(.int (90 : Int32)), (.int v1)])) _
      refine XS.icmpYes X0.here hx rfl (pc0 := 56) (pc' := 75) rfl (hb hby at_56) rfl (flt hb0_56).2.2.2 (by decide) (by decide) ?_
      show Steps p.tables e below (s₁.setTop (mkF m 75 #[.val (.int p1), .val (.int p2), .val (.int v1), .val (.int v3), .val (.int v5), .unset, .unset] [])) _
      refine XS.iconst X0.here hx rfl (hb hby at_75) ?_
      exact k
  obtain ⟨v9, hj10, pre10⟩ : ∃ v9 : Int32, ((v3 = (0 : Int32) ∧ v9 = (0 : Int32)) ∨ (¬ (v3 = (0 : Int32)) ∧ v5 = (0 : Int32) ∧ v7 = (0 : Int32) ∧ v9 = (1 : Int32)) ∨ (¬ (v3 = (0 : Int32)) ∧ v5 = (0 : Int32) ∧ ¬ (v7 = (0 : Int32)) ∧ v9 = (0 : Int32)) ∨ (¬ (v3 = (0 : Int32)) ∧ ¬ (v5 = (0 : Int32)) ∧ v9 = (0 : Int32))) ∧ (∀ t, Steps p.tables e below (s₁.setTop (mkF m 97 #[.val (.int p1), .val (.int p2), .val (.int v1), .val (.int v3), .val (.int v5), .val (.int v7), .unset] [(.int v9)])) t → Steps p.tables e below (s₁.setTop (entryFrame m #[(.int p1), (.int p2)] maxLocals)) t) := by
    by_cases hb0_79 : v3 = (0 : Int32)
    · skip
      refine ⟨(0 : Int32), Or.inl (⟨hb0_79, rfl⟩), fun t k => pre8 t ?_⟩
      show Steps p.tables e below (s₁.setTop (mkF m 76 #[.val (.int p1), .val (.int p2), .val (.int v1), .val (.int v3), .val (.int v5), .unset, .unset] [(.int v7)])) _
      refine XS.istore X0.here hx rfl (hb hby at_76) rfl (l' := #[.val (.int p1), .val (.int p2), .val (.int v1), .val (.int v3), .val (.int v5), .val (.int v7), .unset]) rfl ?_
      show Steps p.tables e below (s₁.setTop (mkF m 78 #[.val (.int p1), .val (.int p2), .val (.int v1), .val (.int v3), .val (.int v5), .val (.int v7), .unset] [])) _
      refine XS.iloadN X0.here hx rfl (hb hby at_78) rfl ?_
      show Steps p.tables e below (s₁.setTop (mkF m 79 #[.val (.int p1), .val (.int p2), .val (.int v1), .val (.int v3), .val (.int v5), .val (.int v7), .unset] [(.int v3)])) _
      refine XS.ifYes X0.here hx rfl (pc0 := 79) (pc' := 96) rfl (hb hby at_79) rfl ((if0 _ _).trans (teq hb0_79).1) (by decide) (by decide) ?_
      show Steps p.tables e below (s₁.setTop (mkF m 96 #[.val (.int p1), .val (.int p2), .val (.int v1), .val (.int v3), .val (.int v5), .val (.int v7), .unset] [])) _
      refine XS.iconst X0.here hx rfl (hb hby at_96) ?_
      exact k
    · skip
      by_cases hb1_84 : v5 = (0 : Int32)
      · skip
        by_cases hb2_89 : v7 = (0 : Int32)
        · skip
          refine ⟨(1 : Int32), Or.inr (Or.inl (⟨hb0_79, hb1_84, hb2_89, rfl⟩)), fun t k => pre8 t ?_⟩
          show Steps p.tables e below (s₁.setTop (mkF m 76 #[.val (.int p1), .val (.int p2), .val (.int v1), .val (.int v3), .val (.int v5), .unset, .unset] [(.int v7)])) _
          refine XS.istore X0.here hx rfl (hb hby at_76) rfl (l' := #[.val (.int p1), .val (.int p2), .val (.int v1), .val (.int v3), .val (.int v5), .val (.int v7), .unset]) rfl ?_
          show Steps p.tables e below (s₁.setTop (mkF m 78 #[.val (.int p1), .val (.int p2), .val (.int v1), .val (.int v3), .val (.int v5), .val (.int v7), .unset] [])) _
          refine XS.iloadN X0.here hx rfl (hb hby at_78) rfl ?_
          show Steps p.tables e below (s₁.setTop (mkF m 79 #[.val (.int p1), .val (.int p2), .val (.int v1), .val (.int v3), .val (.int v5), .val (.int v7), .unset] [(.int v3)])) _
          refine XS.ifNo X0.here hx rfl (hb hby at_79) rfl ((if0 _ _).trans (feq hb0_79).1) ?_
          show Steps p.tables e below (s₁.setTop (mkF m 82 #[.val (.int p1), .val (.int p2), .val (.int v1), .val (.int v3), .val (.int v5), .val (.int v7), .unset] [])) _
          refine XS.iload X0.here hx rfl (hb hby at_82) rfl ?_
          show Steps p.tables e below (s₁.setTop (mkF m 84 #[.val (.int p1), .val (.int p2), .val (.int v1), .val (.int v3), .val (.int v5), .val (.int v7), .unset] [(.int v5)])) _
          refine XS.ifNo X0.here hx rfl (hb hby at_84) rfl ((if0 _ _).trans (teq hb1_84).2) ?_
          show Steps p.tables e below (s₁.setTop (mkF m 87 #[.val (.int p1), .val (.int p2), .val (.int v1), .val (.int v3), .val (.int v5), .val (.int v7), .unset] [])) _
          refine XS.iload X0.here hx rfl (hb hby at_87) rfl ?_
          show Steps p.tables e below (s₁.setTop (mkF m 89 #[.val (.int p1), .val (.int p2), .val (.int v1), .val (.int v3), .val (.int v5), .val (.int v7), .unset] [(.int v7)])) _
          refine XS.ifNo X0.here hx rfl (hb hby at_89) rfl ((if0 _ _).trans (teq hb2_89).2) ?_
          show Steps p.tables e below (s₁.setTop (mkF m 92 #[.val (.int p1), .val (.int p2), .val (.int v1), .val (.int v3), .val (.int v5), .val (.int v7), .unset] [])) _
          refine XS.iconst X0.here hx rfl (hb hby at_92) ?_
          show Steps p.tables e below (s₁.setTop (mkF m 93 #[.val (.int p1), .val (.int p2), .val (.int v1), .val (.int v3), .val (.int v5), .val (.int v7), .unset] [(.int (1 : Int32))])) _
          refine XS.goto X0.here hx rfl (pc0 := 93) (pc' := 97) rfl (hb hby at_93) (by decide) (by decide) ?_
          exact k
        · skip
          refine ⟨(0 : Int32), Or.inr (Or.inr (Or.inl (⟨hb0_79, hb1_84, hb2_89, rfl⟩))), fun t k => pre8 t ?_⟩
          show Steps p.tables e below (s₁.setTop (mkF m 76 #[.val (.int p1), .val (.int p2), .val (.int v1), .val (.int v3), .val (.int v5), .unset, .unset] [(.int v7)])) _
          refine XS.istore X0.here hx rfl (hb hby at_76) rfl (l' := #[.val (.int p1), .val (.int p2), .val (.int v1), .val (.int v3), .val (.int v5), .val (.int v7), .unset]) rfl ?_
          show Steps p.tables e below (s₁.setTop (mkF m 78 #[.val (.int p1), .val (.int p2), .val (.int v1), .val (.int v3), .val (.int v5), .val (.int v7), .unset] [])) _
          refine XS.iloadN X0.here hx rfl (hb hby at_78) rfl ?_
          show Steps p.tables e below (s₁.setTop (mkF m 79 #[.val (.int p1), .val (.int p2), .val (.int v1), .val (.int v3), .val (.int v5), .val (.int v7), .unset] [(.int v3)])) _
          refine XS.ifNo X0.here hx rfl (hb hby at_79) rfl ((if0 _ _).trans (feq hb0_79).1) ?_
          show Steps p.tables e below (s₁.setTop (mkF m 82 #[.val (.int p1), .val (.int p2), .val (.int v1), .val (.int v3), .val (.int v5), .val (.int v7), .unset] [])) _
          refine XS.iload X0.here hx rfl (hb hby at_82) rfl ?_
          show Steps p.tables e below (s₁.setTop (mkF m 84 #[.val (.int p1), .val (.int p2), .val (.int v1), .val (.int v3), .val (.int v5), .val (.int v7), .unset] [(.int v5)])) _
          refine XS.ifNo X0.here hx rfl (hb hby at_84) rfl ((if0 _ _).trans (teq hb1_84).2) ?_
          show Steps p.tables e below (s₁.setTop (mkF m 87 #[.val (.int p1), .val (.int p2), .val (.int v1), .val (.int v3), .val (.int v5), .val (.int v7), .unset] [])) _
          refine XS.iload X0.here hx rfl (hb hby at_87) rfl ?_
          show Steps p.tables e below (s₁.setTop (mkF m 89 #[.val (.int p1), .val (.int p2), .val (.int v1), .val (.int v3), .val (.int v5), .val (.int v7), .unset] [(.int v7)])) _
          refine XS.ifYes X0.here hx rfl (pc0 := 89) (pc' := 96) rfl (hb hby at_89) rfl ((if0 _ _).trans (feq hb2_89).2) (by decide) (by decide) ?_
          show Steps p.tables e below (s₁.setTop (mkF m 96 #[.val (.int p1), .val (.int p2), .val (.int v1), .val (.int v3), .val (.int v5), .val (.int v7), .unset] [])) _
          refine XS.iconst X0.here hx rfl (hb hby at_96) ?_
          exact k
      · skip
        refine ⟨(0 : Int32), Or.inr (Or.inr (Or.inr (⟨hb0_79, hb1_84, rfl⟩))), fun t k => pre8 t ?_⟩
        show Steps p.tables e below (s₁.setTop (mkF m 76 #[.val (.int p1), .val (.int p2), .val (.int v1), .val (.int v3), .val (.int v5), .unset, .unset] [(.int v7)])) _
        refine XS.istore X0.here hx rfl (hb hby at_76) rfl (l' := #[.val (.int p1), .val (.int p2), .val (.int v1), .val (.int v3), .val (.int v5), .val (.int v7), .unset]) rfl ?_
        show Steps p.tables e below (s₁.setTop (mkF m 78 #[.val (.int p1), .val (.int p2), .val (.int v1), .val (.int v3), .val (.int v5), .val (.int v7), .unset] [])) _
        refine XS.iloadN X0.here hx rfl (hb hby at_78) rfl ?_
        show Steps p.tables e below (s₁.setTop (mkF m 79 #[.val (.int p1), .val (.int p2), .val (.int v1), .val (.int v3), .val (.int v5), .val (.int v7), .unset] [(.int v3)])) _
        refine XS.ifNo X0.here hx rfl (hb hby at_79) rfl ((if0 _ _).trans (feq hb0_79).1) ?_
        show Steps p.tables e below (s₁.setTop (mkF m 82 #[.val (.int p1), .val (.int p2), .val (.int v1), .val (.int v3), .val (.int v5), .val (.int v7), .unset] [])) _
        refine XS.iload X0.here hx rfl (hb hby at_82) rfl ?_
        show Steps p.tables e below (s₁.setTop (mkF m 84 #[.val (.int p1), .val (.int p2), .val (.int v1), .val (.int v3), .val (.int v5), .val (.int v7), .unset] [(.int v5)])) _
        refine XS.ifYes X0.here hx rfl (pc0 := 84) (pc' := 96) rfl (hb hby at_84) rfl ((if0 _ _).trans (feq hb1_84).2) (by decide) (by decide) ?_
        show Steps p.tables e below (s₁.setTop (mkF m 96 #[.val (.int p1), .val (.int p2), .val (.int v1), .val (.int v3), .val (.int v5), .val (.int v7), .unset] [])) _
        refine XS.iconst X0.here hx rfl (hb hby at_96) ?_
        exact k
  have pre11 : ∀ t, Steps p.tables e below (s₁.setTop (mkF m 100 #[.val (.int p1), .val (.int p2), .val (.int v1), .val (.int v3), .val (.int v5), .val (.int v7), .val (.int v9)] [(.int v1)])) t → Steps p.tables e below (s₁.setTop (entryFrame m #[(.int p1), (.int p2)] maxLocals)) t := by
    refine fun t k => pre10 t ?_
    show Steps p.tables e below (s₁.setTop (mkF m 97 #[.val (.int p1), .val (.int p2), .val (.int v1), .val (.int v3), .val (.int v5), .val (.int v7), .unset] [(.int v9)])) _
    refine XS.istore X0.here hx rfl (hb hby at_97) rfl (l' := #[.val (.int p1), .val (.int p2), .val (.int v1), .val (.int v3), .val (.int v5), .val (.int v7), .val (.int v9)]) rfl ?_
    show Steps p.tables e below (s₁.setTop (mkF m 99 #[.val (.int p1), .val (.int p2), .val (.int v1), .val (.int v3), .val (.int v5), .val (.int v7), .val (.int v9)] [])) _
    refine XS.iloadN X0.here hx rfl (hb hby at_99) rfl ?_
    exact k
  have Z12 : n0 ≤ h0.size := Z0
  obtain ⟨_, _, ⟨T12, L12, k12, n12⟩, -, X12, ⟨Lc12, hQ12, l12, y12, z12⟩, st12⟩ := Jvm.LawKit.callS X0 hx (y := (⟨"com/example/tidemark/tidemark/Tokens", "isWordCharacter", "(I)Z"⟩ : MethodName)) hown (mvT hZ (hw _ (List.mem_of_getElem? (i := 0) rfl))) (mvT hZ (hw _ (List.mem_of_getElem? (i := 1) rfl))) (mvT hZ (hw _ (List.mem_of_getElem? (i := 2) rfl))) (mvT hZ (hw _ (List.mem_of_getElem? (i := 3) rfl))) (by decide) (backOf (W := 0) (rm1 l Z a0 hw [] v1  h0 n0 Z12 ) hZ (hw _ (List.mem_of_getElem? (i := 3) rfl)) (hw _ (List.mem_of_getElem? (i := 2) rfl)) (by decide) (by decide)) (g := (mkF m 100 #[.val (.int p1), .val (.int p2), .val (.int v1), .val (.int v3), .val (.int v5), .val (.int v7), .val (.int v9)] [(.int v1)])) rfl (by rw [hml]; rfl) (argsL := [(.int v1)]) (rest := []) (lenOf pd0_0 rfl) rfl (by show 2 * 0 + _ ≤ _; exact Nat.le_of_eq rfl) (hb hby at_100) (fun _ _ => ⟨rfl, e0, (by decide : 0 + 0 ≤ _), (by decide : 0 + 0 ≤ _)⟩)
  dsimp only [Pt.U, Pt.locs, Pt.cells, Pt.slots] at X12 l12 y12 z12 st12 hQ12
  subst l12 y12 z12
  obtain ⟨r13, rfl, Nq12, ehq12, hq12⟩ := hQ12
  have N12 := Fr.app N0 Nq12
  have pre14 : ∀ t, Steps p.tables e below (T12.setTop (mkF m 103 #[.val (.int p1), .val (.int p2), .val (.int v1), .val (.int v3), .val (.int v5), .val (.int v7), .val (.int v9)] [(.int r13)])) t → Steps p.tables e below (s₁.setTop (entryFrame m #[(.int p1), (.int p2)] maxLocals)) t := fun t k => pre11 t (st12 _ k)
  obtain ⟨v15, hj16, pre16⟩ : ∃ v15 : Int32, ((r13 = v9 ∧ v15 = (1 : Int32)) ∨ (¬ (r13 = v9) ∧ v15 = (0 : Int32))) ∧ (∀ t, Steps p.tables e below (T12.setTop (mkF m 113 #[.val (.int p1), .val (.int p2), .val (.int v1), .val (.int v3), .val (.int v5), .val (.int v7), .val (.int v9)] [(.int v15)])) t → Steps p.tables e below (s₁.setTop (entryFrame m #[(.int p1), (.int p2)] maxLocals)) t) := by
    by_cases hb0_105 : r13 = v9
    · skip
      refine ⟨(1 : Int32), Or.inl (⟨hb0_105, rfl⟩), fun t k => pre14 t ?_⟩
      show Steps p.tables e below (T12.setTop (mkF m 103 #[.val (.int p1), .val (.int p2), .val (.int v1), .val (.int v3), .val (.int v5), .val (.int v7), .val (.int v9)] [(.int r13)])) _
      refine XS.iload X12.here hx rfl (hb hby at_103) rfl ?_
      show Steps p.tables e below (T12.setTop (mkF m 105 #[.val (.int p1), .val (.int p2), .val (.int v1), .val (.int v3), .val (.int v5), .val (.int v7), .val (.int v9)] [(.int v9), (.int r13)])) _
      refine XS.icmpNo X12.here hx rfl (hb hby at_105) rfl (teq hb0_105).2 ?_
      show Steps p.tables e below (T12.setTop (mkF m 108 #[.val (.int p1), .val (.int p2), .val (.int v1), .val (.int v3), .val (.int v5), .val (.int v7), .val (.int v9)] [])) _
      refine XS.iconst X12.here hx rfl (hb hby at_108) ?_
      show Steps p.tables e below (T12.setTop (mkF m 109 #[.val (.int p1), .val (.int p2), .val (.int v1), .val (.int v3), .val (.int v5), .val (.int v7), .val (.int v9)] [(.int (1 : Int32))])) _
      refine XS.goto X12.here hx rfl (pc0 := 109) (pc' := 113) rfl (hb hby at_109) (by decide) (by decide) ?_
      exact k
    · skip
      refine ⟨(0 : Int32), Or.inr (⟨hb0_105, rfl⟩), fun t k => pre14 t ?_⟩
      show Steps p.tables e below (T12.setTop (mkF m 103 #[.val (.int p1), .val (.int p2), .val (.int v1), .val (.int v3), .val (.int v5), .val (.int v7), .val (.int v9)] [(.int r13)])) _
      refine XS.iload X12.here hx rfl (hb hby at_103) rfl ?_
      show Steps p.tables e below (T12.setTop (mkF m 105 #[.val (.int p1), .val (.int p2), .val (.int v1), .val (.int v3), .val (.int v5), .val (.int v7), .val (.int v9)] [(.int v9), (.int r13)])) _
      refine XS.icmpYes X12.here hx rfl (pc0 := 105) (pc' := 112) rfl (hb hby at_105) rfl (feq hb0_105).2 (by decide) (by decide) ?_
      show Steps p.tables e below (T12.setTop (mkF m 112 #[.val (.int p1), .val (.int p2), .val (.int v1), .val (.int v3), .val (.int v5), .val (.int v7), .val (.int v9)] [])) _
      refine XS.iconst X12.here hx rfl (hb hby at_112) ?_
      exact k
  have hfin : v15 = 1 := by
    simp only [Int32.lt_iff_toInt_lt, ← Int32.toInt_inj, Int32.reduceToInt, true_and, and_true, false_and, and_false, or_false, false_or, not_true_eq_false, not_false_eq_true] at hj2 hj4 hj6 hj8 hj10 hq12 hj16 ⊢ <;> omega
  subst hfin
  obtain ⟨fs, hr, hrun, hended, hW, hsame⟩ := X12.leave (v := some (.int (1 : Int32))) (fun h => by rw [Bd.returns] at h; cases h)
  refine ⟨_, _, pre16 _ ?_, hrun, hended, _, _, rfl, ?_, ⟨_, rfl⟩, hW, hsame.mono (by decide) (by decide)⟩
  · skip
    show Steps p.tables e below (T12.setTop (mkF m 113 #[.val (.int p1), .val (.int p2), .val (.int v1), .val (.int v3), .val (.int v5), .val (.int v7), .val (.int v9)] [(.int (1 : Int32))])) _
    exact retN X12 hx (t := .boolean) Bd.returns (by simp) (hb hby at_113) hr
  · show Q0 Z p1 p2 h0 n0 _ T12.heap _
    rw [ehq12]
    exact ⟨rfl, N12⟩
set_option maxRecDepth 65536 in
set_option maxHeartbeats 40000000 in
theorem comes_1 {Post : Tables → Env → Array Value → State → Outcome → State → Prop} (hpost : ∀ tb e args s v u, (limb_1_1.after args s (.returned v) u = true ∧ limb_1_2.after args s (.returned v) u = true ∧ True) → FrameEnd s (.returned v) u (Jvm.fieldLocs frame_1_writes args s ++ Jvm.arrayLocs frame_1_arrays args s ++ Jvm.staticLocs frame_1_statics s) 0 0 → Post tb e args s (.returned v) u) :
    ArmFor flags0 classFile x code maxLocals ret World_1 tables_1 room_1 Calls_1 rest_1 Pre_1 Post := by
  intro l hfl _ _ p e ha hc hk s m args below hf hA hF happ hP
  obtain ⟨hcalls, hrest, hpre⟩ := hP
  obtain ⟨-, -, -, hnamed, -, -, -, hat⟩ := (Spec.applies_iff hf).mp happ
  obtain ⟨hg, hn⟩ := and_e (Cond.before_iff.mp (show (Jvm.Cond.and given_1 narrow_1).before args s = true from hpre))
  obtain ⟨k0, g0⟩ := and_e hg
  obtain ⟨k1, g1⟩ := and_e g0
  obtain ⟨w0, w1, rfl⟩ : ∃ w0 w1 : Value, args = #[w0, w1] := by
    have hs : args.size = 2 := by simpa [Cond.value, given_1] using k0
    obtain ⟨L⟩ := args
    match L, hs with
    | [w0, w1], _ => exact ⟨w0, w1, rfl⟩
  have hw := fun d (hd : d ∈ tables_1) => atoms_spec (ws := Jvm.Cond.code x code maxLocals ret :: tables_1) hat d (List.mem_cons_of_mem _ hd)
  have hfit : Fit s := fun {y c} hc i hi => by
    obtain ⟨ha, rfl⟩ := Array.getElem?_eq_some_iff.mp hc
    have q := List.all_eq_true.mp ((Array.all_eq_true_iff_forall_mem.mp hF) _ (Array.getElem_mem ha)) i (List.mem_range.mpr hi)
    simpa [Array.getElem?_eq_getElem hi] using q
  obtain ⟨i0, ei0⟩ := is_v k1
  obtain rfl : w0 = (.int i0) := Option.some.inj ei0
  obtain ⟨i1, ei1⟩ := is_v g1
  obtain rfl : w1 = (.int i1) := Option.some.inj ei1
  obtain ⟨n, o, h1, h2, h3, _, L, rfl, ⟨rfl, N⟩, hq⟩ := rm0 l s _ hw tables_1 i0 i1  s.heap s.heap.size (Nat.le_refl _)  p e ha hc hk s m _ below hf ((Spec.applies_iff_loose hf).mp happ).1 ⟨rfl, State.Warmed39.refl s, rfl⟩ trivial
  refine ⟨n, _, h1, h2, h3, hpost _ _ _ _ _ _ ⟨Cond.after_iff.mpr rfl, Cond.after_iff.mpr (eq_i res_at (Term.int_eval (1)) rfl), trivial⟩ ⟨hq.1, hq.2.1, (hq.2.2.sift fun y hy => Or.inr (N y hy)).mono (by decide) (by decide)⟩⟩
theorem main_1_1 : Claimed_1_1 := comes_1 fun _ _ _ _ _ _ h hF => ⟨h.1, hF⟩
theorem main_1_2 : Claimed_1_2 := comes_1 fun _ _ _ _ _ _ h hF => ⟨h.2.1, hF⟩
end Jvm.Pilot.@@N@@
namespace Jvm.Pilot.@@N@@
open Jvm Jvm.ClassFile Sem Op Lib Jvm.Free Jvm.Stand Jvm.Pilot.@@N@@.Jvm.D
/-! MADE BY PROGRAM (witnessworld.py) out of the Statement's table words and the real class files: 9 classes; the members and pool entries that the words name. The judged class is class 1, her method 1. -/
namespace start1
open Jvm.ClassFile
def u (s : String) : CpInfo := .utf8 (stringToUtf16 s)
/-- a pool by its gaps: so many unusable entries, then the entry; so many at the end -/
def gap : Nat → List CpInfo → List CpInfo
  | 0, r => r
  | n + 1, r => .unusable :: gap n r
def poolList (es : List (Nat × CpInfo)) (last : Nat) : List CpInfo := es.foldr (fun e r => gap e.1 (e.2 :: r)) (gap last [])
def pool (es : List (Nat × CpInfo)) (last : Nat) : Array CpInfo := ⟨poolList es last⟩
def fileOf (pool : Array CpInfo) (this : Nat) (attrs : Array Attribute := #[]) (ms : Array MethodInfo := #[]) (fl : Nat := 33) (sup : Nat := 0) (ifs : Array Nat := #[]) (fds : Array FieldInfo := #[]) : ClassFile where
  minorVersion := 0
  majorVersion := 65
  constantPool := pool
  accessFlags := fl
  thisClass := this
  superClass := sup
  interfaces := ifs
  fields := fds
  methods := ms
  attributes := attrs
def plain (name : String) (sup : Option ClassId) : Class where
  name := name
  kind := .ordinary
  loader := none
  accessFlags := 33
  super := sup
  interfaces := #[]
  cf := none
  fields := #[]
  methods := #[]
  instanceTypes := #[]
  staticTypes := #[]
  resolved := #[]
  callSites := []
  init := .initialized
  statics := none
  mirror := none

def pool0 : Array CpInfo := pool [(5, u "<init>"), (0, u "()V"), (1, .class_ 10), (1, u "java/lang/Object")] 113

def k0m0 : Method := { name := "<init>", desc := "()V", sig := { parameters := [], returnType := none }, accessFlags := 1, code := none }
/-- java/lang/Object -/
def k0 : Class := { plain "java/lang/Object" none with
  accessFlags := 33
  interfaces := #[]
  cf := some (fileOf pool0 8 #[] #[{ accessFlags := 1, nameIndex := 5, descriptorIndex := 6, attributes := #[] }] 33 0 #[] #[])
  fields := #[]
  methods := #[k0m0]
  instanceTypes := #[]
  staticTypes := #[]
  resolved := Array.replicate 124 none
  statics := none }

def pool1 : Array CpInfo := pool [(2, .class_ 4), (1, u "java/lang/Object"), (0, u "<init>"), (0, u "()V"), (0, .methodref 8 9), (0, .class_ 10), (0, .nameAndType 11 12), (0, u "com/example/tidemark/tidemark/Tokens"), (0, u "isWordCharacter"), (0, u "(I)Z"), (0, .class_ 14), (0, u "com/example/tidemark/tidemark/TokensIsWordCharacterPinLaw"), (2, u "law"), (0, u "(II)Z")] 3

def k1m0 : Method := { name := "<init>", desc := "()V", sig := { parameters := [], returnType := none }, accessFlags := 1, code := none }
def k1c1 : Code := { maxStack := 2, maxLocals := 7, code := code, exceptionTable := #[], attributes := #[] }
def k1m1 : Method := { name := "law", desc := "(II)Z", sig := { parameters := [.int, .int], returnType := some .boolean }, accessFlags := 9, code := some k1c1 }
/-- com/example/tidemark/tidemark/TokensIsWordCharacterPinLaw -/
def k1 : Class := { plain "com/example/tidemark/tidemark/TokensIsWordCharacterPinLaw" (some 0) with
  accessFlags := 49
  interfaces := #[]
  cf := some (fileOf pool1 13 #[] #[{ accessFlags := 1, nameIndex := 5, descriptorIndex := 6, attributes := #[] }, { accessFlags := 9, nameIndex := 17, descriptorIndex := 18, attributes := #[] }] 49 2 #[] #[])
  fields := #[]
  methods := #[k1m0, k1m1]
  instanceTypes := #[]
  staticTypes := #[]
  resolved := Array.replicate 22 none
  statics := none }

def pool2 : Array CpInfo := pool [(2, .class_ 4), (1, u "java/lang/Object"), (6, .class_ 13), (1, u "com/example/tidemark/tidemark/Tokens"), (0, u "texts"), (0, u "Ljava/util/List;"), (2, u "lines"), (2, u "source"), (0, u "Ljava/lang/String;"), (8, u "symbols"), (2, u "end"), (12, u "isWordCharacter"), (0, u "(I)Z"), (20, u "position"), (0, u "I"), (50, .methodref 11 122), (0, .nameAndType 123 48), (0, u "isDigit")] 65

def k2c0 : Code := { maxStack := 2, maxLocals := 1, code := prog_73_method_11_code, exceptionTable := #[], attributes := #[] }
def k2m0 : Method := { name := "isWordCharacter", desc := "(I)Z", sig := { parameters := [.int], returnType := some .boolean }, accessFlags := 8, code := some k2c0 }
def k2c1 : Code := { maxStack := 2, maxLocals := 1, code := prog_73_method_12_code, exceptionTable := #[], attributes := #[] }
def k2m1 : Method := { name := "isDigit", desc := "(I)Z", sig := { parameters := [.int], returnType := some .boolean }, accessFlags := 8, code := some k2c1 }
/-- com/example/tidemark/tidemark/Tokens -/
def k2 : Class := { plain "com/example/tidemark/tidemark/Tokens" (some 0) with
  accessFlags := 48
  interfaces := #[]
  cf := some (fileOf pool2 11 #[] #[{ accessFlags := 8, nameIndex := 47, descriptorIndex := 48, attributes := #[] }, { accessFlags := 8, nameIndex := 123, descriptorIndex := 48, attributes := #[] }] 48 2 #[] #[{ accessFlags := 18, nameIndex := 21, descriptorIndex := 22, attributes := #[] }, { accessFlags := 18, nameIndex := 31, descriptorIndex := 15, attributes := #[] }, { accessFlags := 18, nameIndex := 34, descriptorIndex := 22, attributes := #[] }, { accessFlags := 18, nameIndex := 14, descriptorIndex := 15, attributes := #[] }, { accessFlags := 18, nameIndex := 18, descriptorIndex := 15, attributes := #[] }, { accessFlags := 2, nameIndex := 69, descriptorIndex := 70, attributes := #[] }])
  fields := #[{ name := "source", type := (.object "java/lang/String"), accessFlags := 18, slot := 0, constantValue := 0 }, { name := "symbols", type := (.object "java/util/List"), accessFlags := 18, slot := 1, constantValue := 0 }, { name := "end", type := (.object "java/lang/String"), accessFlags := 18, slot := 2, constantValue := 0 }, { name := "texts", type := (.object "java/util/List"), accessFlags := 18, slot := 3, constantValue := 0 }, { name := "lines", type := (.object "java/util/List"), accessFlags := 18, slot := 4, constantValue := 0 }, { name := "position", type := .int, accessFlags := 2, slot := 5, constantValue := 0 }]
  methods := #[k2m0, k2m1]
  instanceTypes := #[(.object "java/lang/String"), (.object "java/util/List"), (.object "java/lang/String"), (.object "java/util/List"), (.object "java/util/List"), .int]
  staticTypes := #[]
  resolved := Array.replicate 189 none
  statics := none }

def pool3 : Array CpInfo := pool [(1, u "java/lang/Cloneable"), (0, .class_ 1), (0, u "java/lang/Object"), (0, .class_ 3)] 3

/-- java/lang/Cloneable -/
def k3 : Class := { plain "java/lang/Cloneable" (some 0) with
  accessFlags := 1537
  interfaces := #[]
  cf := some (fileOf pool3 2 #[] #[] 1537 4 #[] #[])
  fields := #[]
  methods := #[]
  instanceTypes := #[]
  staticTypes := #[]
  resolved := Array.replicate 8 none
  statics := none }

def pool4 : Array CpInfo := pool [(1, u "java/io/Serializable"), (0, .class_ 1), (0, u "java/lang/Object"), (0, .class_ 3)] 3

/-- java/io/Serializable -/
def k4 : Class := { plain "java/io/Serializable" (some 0) with
  accessFlags := 1537
  interfaces := #[]
  cf := some (fileOf pool4 2 #[] #[] 1537 4 #[] #[])
  fields := #[]
  methods := #[]
  instanceTypes := #[]
  staticTypes := #[]
  resolved := Array.replicate 8 none
  statics := none }

/-- the primitive byte -/
def k5 : Class := { plain "byte" none with kind := .primitive 'B', accessFlags := 0x411 }
/-- [B -/
def k6 : Class := { plain "[B" (some 0) with kind := .array 5 .byte, interfaces := #[3, 4], accessFlags := 1041 }

/-- the primitive int -/
def k7 : Class := { plain "int" none with kind := .primitive 'I', accessFlags := 0x411 }
/-- [I -/
def k8 : Class := { plain "[I" (some 0) with kind := .array 7 .int, interfaces := #[3, 4], accessFlags := 1041 }

def heap : Heap := #[]
def classes : Array Class := #[k0, k1, k2, k3, k4, k5, k6, k7, k8]
def interned : List (Array UInt16 × Addr) := []
def slotsUsed : Nat := 0
def theMethod : MethodId := ⟨1, 1⟩
def args0 : Array Value := #[.int 65, .int 1]
def aboutOver (below : List Frame) : State where
  vm := { classes := classes, interned := interned.toArray }
  heap := heap
  slotsUsed := slotsUsed
  threads := #[{ frames := .invoking theMethod args0 :: below }]
def below0 : List Frame := [.native { method := ⟨0, 0⟩, args := #[] }]
def about1 : State := aboutOver below0
def p0 : Program := .bare "" "" ""
def e0 : Env := launch0.env 0 0 0
theorem w_frames : about1.frames = Frame.invoking theMethod args0 :: below0 := rfl
set_option maxRecDepth 65536 in
theorem w_args : argsFit about1.vm theMethod args0 = true := by decide +kernel
set_option maxRecDepth 65536 in
theorem w_heap : heapFits about1 = true := by decide +kernel
set_option maxRecDepth 65536 in
theorem w_runnable : about1.curStatus? = some .runnable := by decide +kernel
set_option maxRecDepth 65536 in
theorem w_alone : about1.alone = true := by decide +kernel
set_option maxRecDepth 65536 in
theorem w_named : about1.methodNamed? x = some theMethod := by decide +kernel
set_option maxRecDepth 65536 in
theorem w_hears : about1.hears theMethod below0 = true := by decide +kernel
set_option maxRecDepth 65536 in
theorem w_ripe : about1.ripe theMethod args0 below0 = true := by decide +kernel
theorem w_running : about1.status = .running := rfl
set_option maxRecDepth 65536 in
theorem w_room : about1.hasRoom e0.platform room_1 = true :=
  launch0.hasRoom_least _ room_1 (by decide +kernel) (by decide +kernel) (by decide +kernel) (by decide +kernel) (by decide +kernel) (by decide +kernel)
theorem allAtoms_all (ts : List Jvm.Cond) (a : Array Jvm.Value) (st : Jvm.State) : (allAtoms ts).before a st = ts.all (fun c => c.before a st) := by
  induction ts with
  | nil => rfl
  | cons c t ih =>
    show (Jvm.Cond.and c (allAtoms t)).before a st = _
    rw [Jvm.Cond.before_and, ih, List.all_cons]
def words1 : List Jvm.Cond := Jvm.Cond.code x code maxLocals ret :: tables_1
/-- a 'code' word, met by the world's own term for the bytes: nothing is compared byte by byte -/
theorem code_word {y : MethodName} {bytes : ByteArray} {mx : Nat} {rt : Option FieldType} {a : Array Value} {s : State} {m : MethodId} {meth : Method} {c : Code} (h1 : s.methodNamed? y = some m) (h2 : s.vm.method? m = some meth) (h3 : meth.code = some c) (h4 : c.code = bytes)
    (h5 : (c.maxLocals == mx && c.exceptionTable.isEmpty && decide (c.maxStack ≤ mostOperands) && decide (meth.sig.returnType = rt) && !meth.locks && decide (parseMethodDescriptor y.desc = some meth.sig)) = true) : (Jvm.Cond.code y bytes mx rt).before a s = true := by
  simp only [Bool.and_eq_true, beq_iff_eq, Bool.not_eq_true', decide_eq_true_eq] at h5
  obtain ⟨⟨⟨⟨⟨g1, g2⟩, g3⟩, g4⟩, g5⟩, g6⟩ := h5
  simp [Cond.before, Cond.holds, Cond.value, h1, h2, h3, h4, g1, g2, g3, g4, g5, g6]
def isCode : Jvm.Cond → Bool
  | .code _ _ _ _ => true
  | _ => false
theorem all_split {L : List Jvm.Cond} {P : Jvm.Cond → Bool} (h1 : L.all (fun c => isCode c || P c) = true) (h2 : ∀ c ∈ L.filter isCode, P c = true) : L.all P = true := by
  refine List.all_eq_true.mpr fun c hc => ?_
  have h := List.all_eq_true.mp h1 c hc
  rcases Bool.eq_false_or_eq_true (isCode c) with hi | hi
  · exact h2 c (List.mem_filter.mpr ⟨hc, hi⟩)
  · simpa [hi] using h
set_option maxRecDepth 65536 in
theorem w_c0 : (Jvm.Cond.code x code maxLocals ret).before args0 about1 = true := code_word (m := ⟨1, 1⟩) (meth := k1m1) (c := k1c1) (by decide +kernel) rfl rfl rfl (by decide +kernel)
set_option maxRecDepth 65536 in
theorem w_c1 : (Jvm.Cond.code ({ cls := "com/example/tidemark/tidemark/Tokens", name := "isWordCharacter", desc := "(I)Z" } : Jvm.MethodName) prog_73_method_11_code (1 : Nat) (Option.some Jvm.ClassFile.FieldType.boolean)).before args0 about1 = true := code_word (m := ⟨2, 0⟩) (meth := k2m0) (c := k2c0) (by decide +kernel) rfl rfl rfl (by decide +kernel)
set_option maxRecDepth 65536 in
theorem w_c2 : (Jvm.Cond.code ({ cls := "com/example/tidemark/tidemark/Tokens", name := "isDigit", desc := "(I)Z" } : Jvm.MethodName) prog_73_method_12_code (1 : Nat) (Option.some Jvm.ClassFile.FieldType.boolean)).before args0 about1 = true := code_word (m := ⟨2, 1⟩) (meth := k2m1) (c := k2c1) (by decide +kernel) rfl rfl rfl (by decide +kernel)
def codes1 : List Jvm.Cond := [Jvm.Cond.code x code maxLocals ret, Jvm.Cond.code ({ cls := "com/example/tidemark/tidemark/Tokens", name := "isWordCharacter", desc := "(I)Z" } : Jvm.MethodName) prog_73_method_11_code (1 : Nat) (Option.some Jvm.ClassFile.FieldType.boolean), Jvm.Cond.code ({ cls := "com/example/tidemark/tidemark/Tokens", name := "isDigit", desc := "(I)Z" } : Jvm.MethodName) prog_73_method_12_code (1 : Nat) (Option.some Jvm.ClassFile.FieldType.boolean)]
set_option maxRecDepth 65536 in
theorem codes_eq : words1.filter isCode = codes1 := rfl
theorem w_codes : ∀ c ∈ words1.filter isCode, c.before args0 about1 = true := by
  rw [codes_eq]
  intro c hc
  simp only [codes1, List.mem_cons, List.not_mem_nil, or_false] at hc
  rcases hc with rfl | rfl | rfl
  · exact w_c0
  · exact w_c1
  · exact w_c2
set_option maxRecDepth 65536 in
theorem w_t1 : words1.all (fun c => isCode c || c.before args0 about1) = true := by decide +kernel
theorem w_tables : (allAtoms (Jvm.Cond.code x code maxLocals ret :: tables_1)).before args0 about1 = true := by
  rw [allAtoms_all]
  show words1.all (fun c => c.before args0 about1) = true
  refine all_split ?_ w_codes
  rw [w_t1]
set_option maxRecDepth 65536 in
theorem w_case : (Jvm.Cond.and given_1 narrow_1).before args0 about1 = true := by decide +kernel
theorem w_applies : (headSpec (Jvm.Cond.code x code maxLocals ret :: tables_1) room_1).applies x e0.platform about1 = true :=
  (Spec.applies_iff w_frames).mpr ⟨w_running, w_runnable, w_alone, w_named, w_hears, w_ripe, w_room, w_tables⟩
theorem atStart : AtStart classFile x code maxLocals ret World_1 tables_1 room_1 Calls_1 rest_1 Pre_1 launch0 p0 e0 about1 theMethod args0 below0 :=
  ⟨lists_1, trivial, launch0.admits_env _ _ _, launch0.least_env, fairChoices_fair.cas, fairChoices_fair.clock, w_frames, w_args, w_heap, w_applies, trivial, trivial, w_case⟩
end start1
theorem witness_1 : WitnessClaimed_1 := ⟨start1.p0, start1.e0, start1.about1, start1.theMethod, start1.args0, start1.below0, start1.atStart⟩
end Jvm.Pilot.@@N@@
