import JvmDerived
import JvmDerived.Pilot.@@N@@Statement
import JvmDerived.Pilot.@@N@@Code
set_option linter.unusedVariables false
set_option linter.unusedSimpArgs false
@@BLOCK:NumsL.lean.txt@@
namespace Jvm.RoadKit
open Sem ClassFile Op Lib Jvm.Stand Jvm.Free Jvm.LawKit
section New
variable {p : Program} {l : Launch} {e : Env} {R : Room} {s : State} {m : MethodId} {args : Array Value} {below : List Frame} {meth : Method} {c : Code} {T : State} {locs : List Loc} {cells slots : Nat}
theorem retI (X : Stand p l e R s m args below meth c T locs cells slots) (hx : p.tables.exec = Jvm.exec) {pc : Nat} {Ls : Array Slot} {z : Int32} {rest : List Value} (hret : meth.sig.returnType = some .int) (hd : decode c.code pc = .ok (.ireturn, 1)) {fs : List Frame}
    (hl : ∀ (f : JFrame) (acts : List Action), f.method = m → f.locked = none → f.entered = [] → (doReturn e (T.setTop f) acts (some (.int z))).1 = T.setFrames fs) : Steps p.tables e below (T.setTop (mkF m pc Ls (.int z :: rest))) (T.setFrames fs) := by
  have hm' : T.vm.method? m = some meth := X.method'
  have hn : narrow .int (.int z) = .int z := rfl
  show Steps p.tables e below (T.setTop { method := m, pc := pc, locals := Ls, stack := _ :: rest, locked := none }) _
  jvm_step X.here [X.here.top, hx, hd, hm', hret, hn]
  first | (intro acts; rw [hl _ acts rfl rfl rfl]) | rw [hl _ _ rfl rfl rfl]
  exact Steps.refl _
theorem retD (X : Stand p l e R s m args below meth c T locs cells slots) (hx : p.tables.exec = Jvm.exec) {pc : Nat} {Ls : Array Slot} {z : UInt64} {rest : List Value} (hret : meth.sig.returnType = some .double) (hd : decode c.code pc = .ok (.dreturn, 1)) {fs : List Frame}
    (hl : ∀ (f : JFrame) (acts : List Action), f.method = m → f.locked = none → f.entered = [] → (doReturn e (T.setTop f) acts (some (.double z))).1 = T.setFrames fs) : Steps p.tables e below (T.setTop (mkF m pc Ls (.double z :: rest))) (T.setFrames fs) := by
  have hm' : T.vm.method? m = some meth := X.method'
  show Steps p.tables e below (T.setTop { method := m, pc := pc, locals := Ls, stack := _ :: rest, locked := none }) _
  jvm_step X.here [X.here.top, hx, hd, hm', hret]
  first | (intro acts; rw [hl _ acts rfl rfl rfl]) | rw [hl _ _ rfl rfl rfl]
  exact Steps.refl _
end New
end Jvm.RoadKit
namespace Jvm.Pilot.@@N@@
open Jvm Jvm.ClassFile Sem Op Lib Jvm.Free Jvm.Stand Jvm.LawKit Jvm.RoadKit Bundle Jvm.Pilot.@@N@@.Jvm.D
theorem jtlt {x y : Int64} (h : x < y) : ifCond.holds .lt (lcmpW x y) = true ∧ ifCond.holds .ge (lcmpW x y) = false ∧ ifCond.holds .gt (lcmpW y x) = true ∧ ifCond.holds .le (lcmpW y x) = false := by
  have h1 : ¬ y < x := by rw [Int64.lt_iff_toInt_lt] at h ⊢; omega
  have h2 : ¬ x = y := by rintro rfl; exact h1 h
  have h3 : ¬ y = x := fun q => h2 q.symm
  simp [ifCond.holds, lcmpW, h, h1, h2, h3]
theorem jflt {x y : Int64} (h : ¬ x < y) : ifCond.holds .lt (lcmpW x y) = false ∧ ifCond.holds .ge (lcmpW x y) = true ∧ ifCond.holds .gt (lcmpW y x) = false ∧ ifCond.holds .le (lcmpW y x) = true := by
  by_cases h2 : x = y
  · subst h2; simp [ifCond.holds, lcmpW, h]
  · have h1 : y < x := by rw [Int64.lt_iff_toInt_lt] at h ⊢; rw [← Int64.toInt_inj] at h2; omega
    have h3 : ¬ y = x := fun q => h2 q.symm
    simp [ifCond.holds, lcmpW, h, h1, h2, h3]
theorem jteq {x y : Int64} (h : x = y) : ifCond.holds .eq (lcmpW x y) = true ∧ ifCond.holds .ne (lcmpW x y) = false := by
  subst h
  have h1 : ¬ x < x := by rw [Int64.lt_iff_toInt_lt]; omega
  simp [ifCond.holds, lcmpW, h1]
theorem jfeq {x y : Int64} (h : ¬ x = y) : ifCond.holds .eq (lcmpW x y) = false ∧ ifCond.holds .ne (lcmpW x y) = true := by
  by_cases h1 : y < x <;> simp [ifCond.holds, lcmpW, h, h1]
theorem own_sta_keep {Z : State} {h h' : Heap} {C n d : String} {v : Value} {ws : List Addr} (F : Sta Z h C n d v) (K : Keep h h' ws) (q : ∀ x ∈ ws, ∃ c : Cell, h[x]? = some c ∧ c.vm.isStatics = false) : Sta Z h' C n d v := by
  obtain ⟨cf, i, k, f, st, cell, h1, h2, h3, h4, h5, h6, h7⟩ := F
  refine ⟨cf, i, k, f, st, cell, h1, h2, h3, h4, K.2.1 st cell h5 (fun hm => ?_), h6, h7⟩
  obtain ⟨c, e1, e2⟩ := q st hm
  rw [h5] at e1; cases e1; rw [h6] at e2; cases e2
theorem own_nostat {Z : State} {h : Heap} {a : Addr} {C : String} (E : Exa Z h a C) : ∃ c : Cell, h[a]? = some c ∧ c.vm.isStatics = false := by
  obtain ⟨cell, k, h1, -, -, h4, -⟩ := E
  exact ⟨cell, h1, h4⟩

theorem own_mr (a m : Int32) (h : 1 ≤ m.toInt) : 0 ≤ ((a &&& (2147483647 : Int32)) - ((a &&& (2147483647 : Int32)) / m) * m).toInt ∧ ((a &&& (2147483647 : Int32)) - ((a &&& (2147483647 : Int32)) / m) * m).toInt < m.toInt := by
  have mk := Jvm.Kit.i32_mask a (2147483647 : Int32) (k := 31) (by decide) (by decide)
  have nn : 0 ≤ (a &&& (2147483647 : Int32)).toInt := by rw [mk]; omega
  rw [Jvm.LawKit.rem_toInt, Int.tmod_eq_emod_of_nonneg nn]
  exact ⟨Int.emod_nonneg _ (by omega), Int.emod_lt_of_pos _ (by omega)⟩

theorem own_5 {x : Int32} (h0 : 0 ≤ x.toInt) (h1 : x.toInt < 5) : x = (0 : Int32) ∨ x = (1 : Int32) ∨ x = (2 : Int32) ∨ x = (3 : Int32) ∨ x = (4 : Int32) := by
  simp only [← Int32.toInt_inj, Int32.reduceToInt]
  omega
theorem own_fld_ne {Z : State} {h : Heap} {a b : Addr} {C n d : String} {x y : Int32} (F : Fld Z h a C n d (.int x)) (G : Fld Z h b C n d (.int y)) (q : x ≠ y) : a ≠ b := by
  rintro rfl
  obtain ⟨c1, cf1, k1, i1, f1, h1, h2, h3, h4, h5, h6, h7⟩ := F
  obtain ⟨c2, cf2, k2, i2, f2, g1, g2, g3, g4, g5, g6, g7⟩ := G
  rw [h1] at g1; cases g1
  rw [h2] at g2; cases g2
  rw [h7] at g7
  exact q (Value.int.inj (Option.some.inj g7))

/-! body 1 -/
theorem d1_0 : decode prog_80_method_7_code 0 = .ok (.aload_n 0, 1) := by decide +kernel
theorem d1_1 : decode prog_80_method_7_code 1 = .ok (.getstatic 3, 3) := by decide +kernel
theorem d1_4 : decode prog_80_method_7_code 4 = .ok (.if_acmp .eq 10, 3) := by decide +kernel
theorem d1_7 : decode prog_80_method_7_code 7 = .ok (.aload_n 0, 1) := by decide +kernel
theorem d1_8 : decode prog_80_method_7_code 8 = .ok (.getstatic 10, 3) := by decide +kernel
theorem d1_11 : decode prog_80_method_7_code 11 = .ok (.if_acmp .ne 9, 3) := by decide +kernel
theorem d1_14 : decode prog_80_method_7_code 14 = .ok (.getstatic 3, 3) := by decide +kernel
theorem d1_17 : decode prog_80_method_7_code 17 = .ok (.goto 6, 3) := by decide +kernel
theorem d1_20 : decode prog_80_method_7_code 20 = .ok (.getstatic 7, 3) := by decide +kernel
theorem d1_23 : decode prog_80_method_7_code 23 = .ok (.areturn, 1) := by decide +kernel
theorem pn_1 : plainName "com/example/latchwork/latchwork/lock/LockMode" = true := by first | (simp [plainName, overriddenIn]; done) | decide +kernel
theorem ef_1 (m : MethodId) (a1 : Addr) : entryFrame m #[(.ref a1)] 1 = mkF m 0 #[.val (.ref a1)] [] := by first | (simp [entryFrame, mkF, argsToLocals, Value.category]; done) | rfl
def Q1 (Z : State) (a1 : Addr) (s_IS : Addr) (s_S : Addr) (s_IX : Addr) (h0 : Heap) (n0 : Nat) (v : Option Value) (h : Heap) (L : List Loc) : Prop := ∃ r : Addr, v = some (.ref r) ∧ Fr n0 L ∧ h = h0 ∧ ((a1 = s_IS ∧ r = s_IS) ∨ (¬ (a1 = s_IS) ∧ a1 = s_S ∧ r = s_IS) ∨ (¬ (a1 = s_IS) ∧ ¬ (a1 = s_S) ∧ r = s_IX))
set_option maxRecDepth 65536 in
set_option maxHeartbeats 40000000 in
theorem rm1 (l : Launch) (Z : State) (a0 : Array Value) (hw : ∀ d ∈ tables_1, d.before a0 Z = true) (ws : List Jvm.Cond) (a1 : Addr) (s_IS : Addr) (s_S : Addr) (s_IX : Addr) (h0 : Heap) (n0 : Nat) (Z0 : n0 ≤ h0.size) (S_IS : Sta Z h0 "com/example/latchwork/latchwork/lock/LockMode" "IS" "Lcom/example/latchwork/latchwork/lock/LockMode;" (.ref s_IS)) (S_S : Sta Z h0 "com/example/latchwork/latchwork/lock/LockMode" "S" "Lcom/example/latchwork/latchwork/lock/LockMode;" (.ref s_S)) (S_IX : Sta Z h0 "com/example/latchwork/latchwork/lock/LockMode" "IX" "Lcom/example/latchwork/latchwork/lock/LockMode;" (.ref s_IX)) :
    MetFree l (⟨"com/example/latchwork/latchwork/lock/LockMode", "intention", "()Lcom/example/latchwork/latchwork/lock/LockMode;"⟩ : MethodName) (head1 (Jvm.Cond.code (⟨"com/example/latchwork/latchwork/lock/LockMode", "intention", "()Lcom/example/latchwork/latchwork/lock/LockMode;"⟩ : MethodName) prog_80_method_7_code 1 (some (.object "com/example/latchwork/latchwork/lock/LockMode")) :: ws) ({ frames := 0, cells := 0, slots := 0, locals := 0 } : Room)) (fun a U => a = #[(.ref a1)] ∧ Z.Warmed39 U.vm ∧ U.heap = h0) (fun _ _ _ _ _ => True) (fun _ U o U' => ∃ v L, o = .returned v ∧ Q1 Z a1 s_IS s_S s_IX h0 n0 v U'.heap L ∧ FrameEnd U o U' L ({ frames := 0, cells := 0, slots := 0, locals := 0 } : Room).cells ({ frames := 0, cells := 0, slots := 0, locals := 0 } : Room).slots) := by
  refine MetFree.of_bodySF (plainFor_of_name pn_1) hisR ?_
  intro p e s m args below meth c s₁ Bd hml0 hP hK
  obtain ⟨rfl, hZ, hh⟩ := hP
  have hx := Bd.exec
  have hby := Bd.bytes
  have hml : c.maxLocals = 1 := hml0
  have hown : s.vm.findClass "com/example/latchwork/latchwork/lock/LockMode" = some m.cls := findClass_of_methodNamed Bd.named
  have hnm := (name_of_methodNamed Bd.named Bd.method).1
  have X0 : Stand p l e ({ frames := 0, cells := 0, slots := 0, locals := 0 } : Room) s m #[(.ref a1)] below meth c s₁ [] 0 0 := Stand.of_body Bd
  have e0 : s₁.heap = h0 := by rw [← hh, Bd.state]; rfl
  have N0 := Fr.nil n0
  have pre0 : ∀ tq, Steps p.tables e below (s₁.setTop (mkF m 0 #[.val (.ref a1)] [])) tq → Steps p.tables e below (s₁.setTop (entryFrame m #[(.ref a1)] 1)) tq := fun tq kq => castTop (ef_1 m a1) kq
  have pre1 : ∀ tq, Steps p.tables e below (s₁.setTop (mkF m 1 #[.val (.ref a1)] [(.ref a1)])) tq → Steps p.tables e below (s₁.setTop (entryFrame m #[(.ref a1)] 1)) tq := by
    refine fun tq kq => pre0 tq ?_
    show Steps p.tables e below (s₁.setTop (mkF m 0 #[.val (.ref a1)] [])) _
    refine XS.aloadN X0.here hx rfl (hb hby d1_0) rfl rfl ?_
    exact kq
  obtain ⟨T2, X2, e2, st2⟩ := getS2 X0 hx hZ hown (host := "") (Or.inl (hw _ (List.mem_of_getElem? (i := 20) rfl))) Via.refl e0 S_IS (g := (mkF m 1 #[.val (.ref a1)] [(.ref a1)])) rfl (hb hby d1_1)
  have pre3 : ∀ tq, Steps p.tables e below (T2.setTop (mkF m 4 #[.val (.ref a1)] [(.ref s_IS), (.ref a1)])) tq → Steps p.tables e below (s₁.setTop (entryFrame m #[(.ref a1)] 1)) tq := fun tq kq => pre1 tq (st2 _ kq)
  by_cases hc4 : a1 = s_IS
  · skip
    have pre4 : ∀ tq, Steps p.tables e below (T2.setTop (mkF m 14 #[.val (.ref a1)] [])) tq → Steps p.tables e below (s₁.setTop (entryFrame m #[(.ref a1)] 1)) tq := by
      refine fun tq kq => pre3 tq ?_
      show Steps p.tables e below (T2.setTop (mkF m 4 #[.val (.ref a1)] [(.ref s_IS), (.ref a1)])) _
      refine Jvm.RoadKit.acmp (g := (mkF m 4 #[.val (.ref a1)] [(.ref s_IS), (.ref a1)])) X2 hx rfl rfl rfl (pc0 := 4) (pc' := 14) (same := true) rfl (hb hby d1_4) rfl (decide_eq_true (congrArg Value.ref hc4)) (by decide) (by decide) ?_
      exact kq
    obtain ⟨T5, X5, e5, st5⟩ := getS2 X2 hx hZ hown (host := "") (Or.inl (hw _ (List.mem_of_getElem? (i := 20) rfl))) Via.refl e2 S_IS (g := (mkF m 14 #[.val (.ref a1)] [])) rfl (hb hby d1_14)
    have pre6 : ∀ tq, Steps p.tables e below (T5.setTop (mkF m 17 #[.val (.ref a1)] [(.ref s_IS)])) tq → Steps p.tables e below (s₁.setTop (entryFrame m #[(.ref a1)] 1)) tq := fun tq kq => pre4 tq (st5 _ kq)
    obtain ⟨fs, hr, hrun, hended, hW, hsame⟩ := X5.leave (v := some (.ref s_IS)) (fun h => by rw [Bd.returns] at h; cases h)
    refine ⟨_, _, pre6 _ ?_, hrun, hended, _, _, rfl, ?_, ⟨_, rfl⟩, hW, hsame.mono (by decide) (by decide)⟩
    · skip
      show Steps p.tables e below (T5.setTop (mkF m 17 #[.val (.ref a1)] [(.ref s_IS)])) _
      refine XS.goto X5.here hx rfl (pc0 := 17) (pc' := 23) rfl (hb hby d1_17) (by decide) (by decide) ?_
      show Steps p.tables e below (T5.setTop (mkF m 23 #[.val (.ref a1)] [(.ref s_IS)])) _
      exact X5.areturnOut hx rfl Bd.returns rfl (hb hby d1_23) hr
    · show Q1 Z a1 s_IS s_S s_IX h0 n0 _ T5.heap _
      rw [e5]
      exact ⟨s_IS, rfl, N0, rfl, Or.inl (⟨hc4, rfl⟩)⟩
  · skip
    have pre7 : ∀ tq, Steps p.tables e below (T2.setTop (mkF m 7 #[.val (.ref a1)] [])) tq → Steps p.tables e below (s₁.setTop (entryFrame m #[(.ref a1)] 1)) tq := by
      refine fun tq kq => pre3 tq ?_
      show Steps p.tables e below (T2.setTop (mkF m 4 #[.val (.ref a1)] [(.ref s_IS), (.ref a1)])) _
      refine Jvm.RoadKit.acmp (g := (mkF m 4 #[.val (.ref a1)] [(.ref s_IS), (.ref a1)])) X2 hx rfl rfl rfl (pc0 := 4) (pc' := 7) (same := false) rfl (hb hby d1_4) rfl (decide_eq_false fun q => hc4 (Value.ref.inj q)) (by decide) (by decide) ?_
      exact kq
    have pre8 : ∀ tq, Steps p.tables e below (T2.setTop (mkF m 8 #[.val (.ref a1)] [(.ref a1)])) tq → Steps p.tables e below (s₁.setTop (entryFrame m #[(.ref a1)] 1)) tq := by
      refine fun tq kq => pre7 tq ?_
      show Steps p.tables e below (T2.setTop (mkF m 7 #[.val (.ref a1)] [])) _
      refine XS.aloadN X2.here hx rfl (hb hby d1_7) rfl rfl ?_
      exact kq
    obtain ⟨T9, X9, e9, st9⟩ := getS2 X2 hx hZ hown (host := "") (Or.inl (hw _ (List.mem_of_getElem? (i := 35) rfl))) Via.refl e2 S_S (g := (mkF m 8 #[.val (.ref a1)] [(.ref a1)])) rfl (hb hby d1_8)
    have pre10 : ∀ tq, Steps p.tables e below (T9.setTop (mkF m 11 #[.val (.ref a1)] [(.ref s_S), (.ref a1)])) tq → Steps p.tables e below (s₁.setTop (entryFrame m #[(.ref a1)] 1)) tq := fun tq kq => pre8 tq (st9 _ kq)
    by_cases hc11 : a1 = s_S
    · skip
      have pre11 : ∀ tq, Steps p.tables e below (T9.setTop (mkF m 14 #[.val (.ref a1)] [])) tq → Steps p.tables e below (s₁.setTop (entryFrame m #[(.ref a1)] 1)) tq := by
        refine fun tq kq => pre10 tq ?_
        show Steps p.tables e below (T9.setTop (mkF m 11 #[.val (.ref a1)] [(.ref s_S), (.ref a1)])) _
        refine Jvm.RoadKit.acmp (g := (mkF m 11 #[.val (.ref a1)] [(.ref s_S), (.ref a1)])) X9 hx rfl rfl rfl (pc0 := 11) (pc' := 14) (same := true) rfl (hb hby d1_11) rfl (decide_eq_true (congrArg Value.ref hc11)) (by decide) (by decide) ?_
        exact kq
      obtain ⟨T12, X12, e12, st12⟩ := getS2 X9 hx hZ hown (host := "") (Or.inl (hw _ (List.mem_of_getElem? (i := 20) rfl))) Via.refl e9 S_IS (g := (mkF m 14 #[.val (.ref a1)] [])) rfl (hb hby d1_14)
      have pre13 : ∀ tq, Steps p.tables e below (T12.setTop (mkF m 17 #[.val (.ref a1)] [(.ref s_IS)])) tq → Steps p.tables e below (s₁.setTop (entryFrame m #[(.ref a1)] 1)) tq := fun tq kq => pre11 tq (st12 _ kq)
      obtain ⟨fs, hr, hrun, hended, hW, hsame⟩ := X12.leave (v := some (.ref s_IS)) (fun h => by rw [Bd.returns] at h; cases h)
      refine ⟨_, _, pre13 _ ?_, hrun, hended, _, _, rfl, ?_, ⟨_, rfl⟩, hW, hsame.mono (by decide) (by decide)⟩
      · skip
        show Steps p.tables e below (T12.setTop (mkF m 17 #[.val (.ref a1)] [(.ref s_IS)])) _
        refine XS.goto X12.here hx rfl (pc0 := 17) (pc' := 23) rfl (hb hby d1_17) (by decide) (by decide) ?_
        show Steps p.tables e below (T12.setTop (mkF m 23 #[.val (.ref a1)] [(.ref s_IS)])) _
        exact X12.areturnOut hx rfl Bd.returns rfl (hb hby d1_23) hr
      · show Q1 Z a1 s_IS s_S s_IX h0 n0 _ T12.heap _
        rw [e12]
        exact ⟨s_IS, rfl, N0, rfl, Or.inr (Or.inl (⟨hc4, hc11, rfl⟩))⟩
    · skip
      have pre14 : ∀ tq, Steps p.tables e below (T9.setTop (mkF m 20 #[.val (.ref a1)] [])) tq → Steps p.tables e below (s₁.setTop (entryFrame m #[(.ref a1)] 1)) tq := by
        refine fun tq kq => pre10 tq ?_
        show Steps p.tables e below (T9.setTop (mkF m 11 #[.val (.ref a1)] [(.ref s_S), (.ref a1)])) _
        refine Jvm.RoadKit.acmp (g := (mkF m 11 #[.val (.ref a1)] [(.ref s_S), (.ref a1)])) X9 hx rfl rfl rfl (pc0 := 11) (pc' := 20) (same := false) rfl (hb hby d1_11) rfl (decide_eq_false fun q => hc11 (Value.ref.inj q)) (by decide) (by decide) ?_
        exact kq
      obtain ⟨T15, X15, e15, st15⟩ := getS2 X9 hx hZ hown (host := "") (Or.inl (hw _ (List.mem_of_getElem? (i := 36) rfl))) Via.refl e9 S_IX (g := (mkF m 20 #[.val (.ref a1)] [])) rfl (hb hby d1_20)
      have pre16 : ∀ tq, Steps p.tables e below (T15.setTop (mkF m 23 #[.val (.ref a1)] [(.ref s_IX)])) tq → Steps p.tables e below (s₁.setTop (entryFrame m #[(.ref a1)] 1)) tq := fun tq kq => pre14 tq (st15 _ kq)
      obtain ⟨fs, hr, hrun, hended, hW, hsame⟩ := X15.leave (v := some (.ref s_IX)) (fun h => by rw [Bd.returns] at h; cases h)
      refine ⟨_, _, pre16 _ ?_, hrun, hended, _, _, rfl, ?_, ⟨_, rfl⟩, hW, hsame.mono (by decide) (by decide)⟩
      · skip
        show Steps p.tables e below (T15.setTop (mkF m 23 #[.val (.ref a1)] [(.ref s_IX)])) _
        exact X15.areturnOut hx rfl Bd.returns rfl (hb hby d1_23) hr
      · show Q1 Z a1 s_IS s_S s_IX h0 n0 _ T15.heap _
        rw [e15]
        exact ⟨s_IX, rfl, N0, rfl, Or.inr (Or.inr (⟨hc4, hc11, rfl⟩))⟩
/-! body 3 -/
theorem d3_0 : decode jdk_37_method_2_code 0 = .ok (.aload_n 0, 1) := by decide +kernel
theorem d3_1 : decode jdk_37_method_2_code 1 = .ok (.getfield 7, 3) := by decide +kernel
theorem d3_4 : decode jdk_37_method_2_code 4 = .ok (.ireturn, 1) := by decide +kernel
theorem pn_3 : plainName "java/lang/Enum" = true := by first | (simp [plainName, overriddenIn]; done) | decide +kernel
theorem ef_3 (m : MethodId) (a1 : Addr) : entryFrame m #[(.ref a1)] 1 = mkF m 0 #[.val (.ref a1)] [] := by first | (simp [entryFrame, mkF, argsToLocals, Value.category]; done) | rfl
def Q3 (Z : State) (a1 : Addr) (w1 : Int32) (h0 : Heap) (n0 : Nat) (v : Option Value) (h : Heap) (L : List Loc) : Prop := ∃ r : Int32, v = some (.int r) ∧ Fr n0 L ∧ h = h0 ∧ (r = w1)
set_option maxRecDepth 65536 in
set_option maxHeartbeats 40000000 in
theorem rm3 (l : Launch) (Z : State) (a0 : Array Value) (hw : ∀ d ∈ tables_1, d.before a0 Z = true) (ws : List Jvm.Cond) (a1 : Addr) (w1 : Int32) (h0 : Heap) (n0 : Nat) (Z0 : n0 ≤ h0.size) (F_ordinal_a1 : Fld Z h0 a1 "java/lang/Enum" "ordinal" "I" (.int w1)) :
    MetFree l (⟨"java/lang/Enum", "ordinal", "()I"⟩ : MethodName) (head1 (Jvm.Cond.code (⟨"java/lang/Enum", "ordinal", "()I"⟩ : MethodName) jdk_37_method_2_code 1 (some .int) :: ws) ({ frames := 0, cells := 0, slots := 0, locals := 0 } : Room)) (fun a U => a = #[(.ref a1)] ∧ Z.Warmed39 U.vm ∧ U.heap = h0) (fun _ _ _ _ _ => True) (fun _ U o U' => ∃ v L, o = .returned v ∧ Q3 Z a1 w1 h0 n0 v U'.heap L ∧ FrameEnd U o U' L ({ frames := 0, cells := 0, slots := 0, locals := 0 } : Room).cells ({ frames := 0, cells := 0, slots := 0, locals := 0 } : Room).slots) := by
  refine MetFree.of_bodySF (plainFor_of_name pn_3) hisR ?_
  intro p e s m args below meth c s₁ Bd hml0 hP hK
  obtain ⟨rfl, hZ, hh⟩ := hP
  have hx := Bd.exec
  have hby := Bd.bytes
  have hml : c.maxLocals = 1 := hml0
  have hown : s.vm.findClass "java/lang/Enum" = some m.cls := findClass_of_methodNamed Bd.named
  have hnm := (name_of_methodNamed Bd.named Bd.method).1
  have X0 : Stand p l e ({ frames := 0, cells := 0, slots := 0, locals := 0 } : Room) s m #[(.ref a1)] below meth c s₁ [] 0 0 := Stand.of_body Bd
  have e0 : s₁.heap = h0 := by rw [← hh, Bd.state]; rfl
  have N0 := Fr.nil n0
  have pre0 : ∀ tq, Steps p.tables e below (s₁.setTop (mkF m 0 #[.val (.ref a1)] [])) tq → Steps p.tables e below (s₁.setTop (entryFrame m #[(.ref a1)] 1)) tq := fun tq kq => castTop (ef_3 m a1) kq
  have pre1 : ∀ tq, Steps p.tables e below (s₁.setTop (mkF m 1 #[.val (.ref a1)] [(.ref a1)])) tq → Steps p.tables e below (s₁.setTop (entryFrame m #[(.ref a1)] 1)) tq := by
    refine fun tq kq => pre0 tq ?_
    show Steps p.tables e below (s₁.setTop (mkF m 0 #[.val (.ref a1)] [])) _
    refine XS.aloadN X0.here hx rfl (hb hby d3_0) rfl rfl ?_
    exact kq
  obtain ⟨T2, X2, e2, st2⟩ := getF X0 hx hZ hown (host := "") (Or.inl (hw _ (List.mem_of_getElem? (i := 33) rfl))) Via.refl e0 F_ordinal_a1 (g := (mkF m 1 #[.val (.ref a1)] [(.ref a1)])) rfl rfl (hb hby d3_1)
  have pre3 : ∀ tq, Steps p.tables e below (T2.setTop (mkF m 4 #[.val (.ref a1)] [(.int w1)])) tq → Steps p.tables e below (s₁.setTop (entryFrame m #[(.ref a1)] 1)) tq := fun tq kq => pre1 tq (st2 _ kq)
  obtain ⟨fs, hr, hrun, hended, hW, hsame⟩ := X2.leave (v := some (.int w1)) (fun h => by rw [Bd.returns] at h; cases h)
  refine ⟨_, _, pre3 _ ?_, hrun, hended, _, _, rfl, ?_, ⟨_, rfl⟩, hW, hsame.mono (by decide) (by decide)⟩
  · skip
    show Steps p.tables e below (T2.setTop (mkF m 4 #[.val (.ref a1)] [(.int w1)])) _
    exact retI X2 hx Bd.returns (hb hby d3_4) hr
  · show Q3 Z a1 w1 h0 n0 _ T2.heap _
    rw [e2]
    exact ⟨w1, rfl, N0, rfl, rfl⟩
/-! body 2 -/
theorem d2_0 : decode prog_80_method_5_code 0 = .ok (.aload_n 0, 1) := by decide +kernel
theorem d2_1 : decode prog_80_method_5_code 1 = .ok (.invokevirtual 42, 3) := by decide +kernel
theorem d2_4 : decode prog_80_method_5_code 4 = .ok (.tableswitch 69 0 3 #[32, 32, 32, 53], 32) := by decide +kernel
theorem d2_36 : decode prog_80_method_5_code 36 = .ok (.aload_n 1, 1) := by decide +kernel
theorem d2_37 : decode prog_80_method_5_code 37 = .ok (.aload_n 0, 1) := by decide +kernel
theorem d2_38 : decode prog_80_method_5_code 38 = .ok (.if_acmp .eq 10, 3) := by decide +kernel
theorem d2_41 : decode prog_80_method_5_code 41 = .ok (.aload_n 1, 1) := by decide +kernel
theorem d2_42 : decode prog_80_method_5_code 42 = .ok (.getstatic 3, 3) := by decide +kernel
theorem d2_45 : decode prog_80_method_5_code 45 = .ok (.if_acmp .ne 7, 3) := by decide +kernel
theorem d2_48 : decode prog_80_method_5_code 48 = .ok (.iconst 1, 1) := by decide +kernel
theorem d2_49 : decode prog_80_method_5_code 49 = .ok (.goto 4, 3) := by decide +kernel
theorem d2_52 : decode prog_80_method_5_code 52 = .ok (.iconst 0, 1) := by decide +kernel
theorem d2_53 : decode prog_80_method_5_code 53 = .ok (.istore_n 2, 1) := by decide +kernel
theorem d2_54 : decode prog_80_method_5_code 54 = .ok (.goto 21, 3) := by decide +kernel
theorem d2_75 : decode prog_80_method_5_code 75 = .ok (.iload_n 2, 1) := by decide +kernel
theorem d2_76 : decode prog_80_method_5_code 76 = .ok (.ireturn, 1) := by decide +kernel
theorem pn_2 : plainName "com/example/latchwork/latchwork/lock/LockMode" = true := by first | (simp [plainName, overriddenIn]; done) | decide +kernel
theorem pd2_0 : parseMethodDescriptor "()I" = some ⟨[], some .int⟩ := by decide +kernel
theorem ef_2 (m : MethodId) (a1 : Addr) (a2 : Addr) : entryFrame m #[(.ref a1), (.ref a2)] 3 = mkF m 0 #[.val (.ref a1), .val (.ref a2), .unset] [] := by first | (simp [entryFrame, mkF, argsToLocals, Value.category]; done) | rfl
def Q2 (Z : State) (a1 : Addr) (a2 : Addr) (s_IS : Addr) (h0 : Heap) (n0 : Nat) (v : Option Value) (h : Heap) (L : List Loc) : Prop := ∃ r : Int32, v = some (.int r) ∧ Fr n0 L ∧ h = h0 ∧ ((a2 = a1 ∧ r = (1 : Int32)) ∨ (¬ (a2 = a1) ∧ a2 = s_IS ∧ r = (1 : Int32)) ∨ (¬ (a2 = a1) ∧ ¬ (a2 = s_IS) ∧ r = (0 : Int32)))
set_option maxRecDepth 65536 in
set_option maxHeartbeats 40000000 in
theorem rm2 (l : Launch) (Z : State) (a0 : Array Value) (hw : ∀ d ∈ tables_1, d.before a0 Z = true) (ws : List Jvm.Cond) (a1 : Addr) (a2 : Addr) (s_IS : Addr) (h0 : Heap) (n0 : Nat) (Z0 : n0 ≤ h0.size) (S_IS : Sta Z h0 "com/example/latchwork/latchwork/lock/LockMode" "IS" "Lcom/example/latchwork/latchwork/lock/LockMode;" (.ref s_IS)) (E_a1 : Exa Z h0 a1 "com/example/latchwork/latchwork/lock/LockMode") (F_ordinal_a1 : Fld Z h0 a1 "java/lang/Enum" "ordinal" "I" (.int (2 : Int32))) :
    MetFree l (⟨"com/example/latchwork/latchwork/lock/LockMode", "covers", "(Lcom/example/latchwork/latchwork/lock/LockMode;)Z"⟩ : MethodName) (head1 (Jvm.Cond.code (⟨"com/example/latchwork/latchwork/lock/LockMode", "covers", "(Lcom/example/latchwork/latchwork/lock/LockMode;)Z"⟩ : MethodName) prog_80_method_5_code 3 (some .boolean) :: ws) ({ frames := 1, cells := 0, slots := 0, locals := 12 } : Room)) (fun a U => a = #[(.ref a1), (.ref a2)] ∧ Z.Warmed39 U.vm ∧ U.heap = h0) (fun _ _ _ _ _ => True) (fun _ U o U' => ∃ v L, o = .returned v ∧ Q2 Z a1 a2 s_IS h0 n0 v U'.heap L ∧ FrameEnd U o U' L ({ frames := 1, cells := 0, slots := 0, locals := 12 } : Room).cells ({ frames := 1, cells := 0, slots := 0, locals := 12 } : Room).slots) := by
  refine MetFree.of_bodySF (plainFor_of_name pn_2) hisR ?_
  intro p e s m args below meth c s₁ Bd hml0 hP hK
  obtain ⟨rfl, hZ, hh⟩ := hP
  have hx := Bd.exec
  have hby := Bd.bytes
  have hml : c.maxLocals = 3 := hml0
  have hown : s.vm.findClass "com/example/latchwork/latchwork/lock/LockMode" = some m.cls := findClass_of_methodNamed Bd.named
  have hnm := (name_of_methodNamed Bd.named Bd.method).1
  have X0 : Stand p l e ({ frames := 1, cells := 0, slots := 0, locals := 12 } : Room) s m #[(.ref a1), (.ref a2)] below meth c s₁ [] 0 0 := Stand.of_body Bd
  have e0 : s₁.heap = h0 := by rw [← hh, Bd.state]; rfl
  have N0 := Fr.nil n0
  have pre0 : ∀ tq, Steps p.tables e below (s₁.setTop (mkF m 0 #[.val (.ref a1), .val (.ref a2), .unset] [])) tq → Steps p.tables e below (s₁.setTop (entryFrame m #[(.ref a1), (.ref a2)] 3)) tq := fun tq kq => castTop (ef_2 m a1 a2) kq
  have pre1 : ∀ tq, Steps p.tables e below (s₁.setTop (mkF m 1 #[.val (.ref a1), .val (.ref a2), .unset] [(.ref a1)])) tq → Steps p.tables e below (s₁.setTop (entryFrame m #[(.ref a1), (.ref a2)] 3)) tq := by
    refine fun tq kq => pre0 tq ?_
    show Steps p.tables e below (s₁.setTop (mkF m 0 #[.val (.ref a1), .val (.ref a2), .unset] [])) _
    refine XS.aloadN X0.here hx rfl (hb hby d2_0) rfl rfl ?_
    exact kq
  have Z2 : n0 ≤ h0.size := Z0
  obtain ⟨cq2, kq2, q2a, q2b, q2c⟩ := isOf hZ e0 E_a1
  obtain ⟨_, _, ⟨T2, L2, k2, n2⟩, -, X2, ⟨Lc2, hQ2, l2, y2, z2⟩, st2⟩ := X0.virtualBackUp hx (x := (⟨"com/example/latchwork/latchwork/lock/LockMode", "ordinal", "()I"⟩ : MethodName)) (y := (⟨"java/lang/Enum", "ordinal", "()I"⟩ : MethodName)) (owner := "java/lang/Enum") hown (mvT hZ (hw _ (List.mem_of_getElem? (i := 26) rfl))) (mvT hZ (hw _ (List.mem_of_getElem? (i := 27) rfl))) (mvT hZ (hw _ (List.mem_of_getElem? (i := 28) rfl))) (by decide) (mvT hZ (hw _ (List.mem_of_getElem? (i := 30) rfl))) (mvT hZ (hw _ (List.mem_of_getElem? (i := 29) rfl))) (backOf (W := 0) (rm3 l Z a0 hw [] a1 (2 : Int32) h0 n0 Z2 F_ordinal_a1) hZ (hw _ (List.mem_of_getElem? (i := 32) rfl)) (hw _ (List.mem_of_getElem? (i := 31) rfl)) (by decide) (by decide)) q2a q2c (g := (mkF m 1 #[.val (.ref a1), .val (.ref a2), .unset] [(.ref a1)])) rfl (by rw [hml]; rfl) (Steps.refl _) (argsL := []) (rest := []) (lenOf pd2_0 rfl) rfl (by show 2 * 0 + _ ≤ _; exact Nat.le_of_eq rfl) (hb hby d2_1) (fun _ _ => ⟨rfl, e0, (by decide : 0 + 0 ≤ _), (by decide : 0 + 0 ≤ _)⟩)
  dsimp only [Pt.U, Pt.locs, Pt.cells, Pt.slots] at X2 l2 y2 z2 st2 hQ2
  subst l2 y2 z2
  obtain ⟨r3, rfl, Nq2, ehq2, hq2⟩ := hQ2
  have N2 := Fr.app N0 Nq2
  have pre4 : ∀ tq, Steps p.tables e below (T2.setTop (mkF m 4 #[.val (.ref a1), .val (.ref a2), .unset] [(.int r3)])) tq → Steps p.tables e below (s₁.setTop (entryFrame m #[(.ref a1), (.ref a2)] 3)) tq := fun tq kq => pre1 tq (st2.trans kq)
  subst hq2
  have pre5 : ∀ tq, Steps p.tables e below (T2.setTop (mkF m 38 #[.val (.ref a1), .val (.ref a2), .unset] [(.ref a1), (.ref a2)])) tq → Steps p.tables e below (s₁.setTop (entryFrame m #[(.ref a1), (.ref a2)] 3)) tq := by
    refine fun tq kq => pre4 tq ?_
    show Steps p.tables e below (T2.setTop (mkF m 4 #[.val (.ref a1), .val (.ref a2), .unset] [(.int (2 : Int32))])) _
    refine XS.tswIn X2.here hx rfl (pc0 := 4) (pc' := 36) rfl (hb hby d2_4) rfl (by decide) rfl (by decide) (by decide) ?_
    show Steps p.tables e below (T2.setTop (mkF m 36 #[.val (.ref a1), .val (.ref a2), .unset] [])) _
    refine XS.aloadN X2.here hx rfl (hb hby d2_36) rfl rfl ?_
    show Steps p.tables e below (T2.setTop (mkF m 37 #[.val (.ref a1), .val (.ref a2), .unset] [(.ref a2)])) _
    refine XS.aloadN X2.here hx rfl (hb hby d2_37) rfl rfl ?_
    exact kq
  by_cases hc38 : a2 = a1
  · skip
    have pre6 : ∀ tq, Steps p.tables e below (T2.setTop (mkF m 48 #[.val (.ref a1), .val (.ref a2), .unset] [])) tq → Steps p.tables e below (s₁.setTop (entryFrame m #[(.ref a1), (.ref a2)] 3)) tq := by
      refine fun tq kq => pre5 tq ?_
      show Steps p.tables e below (T2.setTop (mkF m 38 #[.val (.ref a1), .val (.ref a2), .unset] [(.ref a1), (.ref a2)])) _
      refine Jvm.RoadKit.acmp (g := (mkF m 38 #[.val (.ref a1), .val (.ref a2), .unset] [(.ref a1), (.ref a2)])) X2 hx rfl rfl rfl (pc0 := 38) (pc' := 48) (same := true) rfl (hb hby d2_38) rfl (decide_eq_true (congrArg Value.ref hc38)) (by decide) (by decide) ?_
      exact kq
    obtain ⟨fs, hr, hrun, hended, hW, hsame⟩ := X2.leave (v := some (.int (1 : Int32))) (fun h => by rw [Bd.returns] at h; cases h)
    refine ⟨_, _, pre6 _ ?_, hrun, hended, _, _, rfl, ?_, ⟨_, rfl⟩, hW, hsame.mono (by decide) (by decide)⟩
    · skip
      show Steps p.tables e below (T2.setTop (mkF m 48 #[.val (.ref a1), .val (.ref a2), .unset] [])) _
      refine XS.iconst X2.here hx rfl (hb hby d2_48) ?_
      show Steps p.tables e below (T2.setTop (mkF m 49 #[.val (.ref a1), .val (.ref a2), .unset] [(.int (1 : Int32))])) _
      refine XS.goto X2.here hx rfl (pc0 := 49) (pc' := 53) rfl (hb hby d2_49) (by decide) (by decide) ?_
      show Steps p.tables e below (T2.setTop (mkF m 53 #[.val (.ref a1), .val (.ref a2), .unset] [(.int (1 : Int32))])) _
      refine XS.istoreN X2.here hx rfl (hb hby d2_53) rfl (l' := #[.val (.ref a1), .val (.ref a2), .val (.int (1 : Int32))]) rfl ?_
      show Steps p.tables e below (T2.setTop (mkF m 54 #[.val (.ref a1), .val (.ref a2), .val (.int (1 : Int32))] [])) _
      refine XS.goto X2.here hx rfl (pc0 := 54) (pc' := 75) rfl (hb hby d2_54) (by decide) (by decide) ?_
      show Steps p.tables e below (T2.setTop (mkF m 75 #[.val (.ref a1), .val (.ref a2), .val (.int (1 : Int32))] [])) _
      refine XS.iloadN X2.here hx rfl (hb hby d2_75) rfl ?_
      show Steps p.tables e below (T2.setTop (mkF m 76 #[.val (.ref a1), .val (.ref a2), .val (.int (1 : Int32))] [(.int (1 : Int32))])) _
      exact retN X2 hx (t := .boolean) Bd.returns (by simp) (hb hby d2_76) hr
    · show Q2 Z a1 a2 s_IS h0 n0 _ T2.heap _
      rw [ehq2]
      exact ⟨(1 : Int32), rfl, N2, rfl, Or.inl (⟨hc38, rfl⟩)⟩
  · skip
    have pre7 : ∀ tq, Steps p.tables e below (T2.setTop (mkF m 41 #[.val (.ref a1), .val (.ref a2), .unset] [])) tq → Steps p.tables e below (s₁.setTop (entryFrame m #[(.ref a1), (.ref a2)] 3)) tq := by
      refine fun tq kq => pre5 tq ?_
      show Steps p.tables e below (T2.setTop (mkF m 38 #[.val (.ref a1), .val (.ref a2), .unset] [(.ref a1), (.ref a2)])) _
      refine Jvm.RoadKit.acmp (g := (mkF m 38 #[.val (.ref a1), .val (.ref a2), .unset] [(.ref a1), (.ref a2)])) X2 hx rfl rfl rfl (pc0 := 38) (pc' := 41) (same := false) rfl (hb hby d2_38) rfl (decide_eq_false fun q => hc38 (Value.ref.inj q)) (by decide) (by decide) ?_
      exact kq
    have pre8 : ∀ tq, Steps p.tables e below (T2.setTop (mkF m 42 #[.val (.ref a1), .val (.ref a2), .unset] [(.ref a2)])) tq → Steps p.tables e below (s₁.setTop (entryFrame m #[(.ref a1), (.ref a2)] 3)) tq := by
      refine fun tq kq => pre7 tq ?_
      show Steps p.tables e below (T2.setTop (mkF m 41 #[.val (.ref a1), .val (.ref a2), .unset] [])) _
      refine XS.aloadN X2.here hx rfl (hb hby d2_41) rfl rfl ?_
      exact kq
    obtain ⟨T9, X9, e9, st9⟩ := getS2 X2 hx hZ hown (host := "") (Or.inl (hw _ (List.mem_of_getElem? (i := 20) rfl))) Via.refl ehq2 S_IS (g := (mkF m 42 #[.val (.ref a1), .val (.ref a2), .unset] [(.ref a2)])) rfl (hb hby d2_42)
    have pre10 : ∀ tq, Steps p.tables e below (T9.setTop (mkF m 45 #[.val (.ref a1), .val (.ref a2), .unset] [(.ref s_IS), (.ref a2)])) tq → Steps p.tables e below (s₁.setTop (entryFrame m #[(.ref a1), (.ref a2)] 3)) tq := fun tq kq => pre8 tq (st9 _ kq)
    by_cases hc45 : a2 = s_IS
    · skip
      have pre11 : ∀ tq, Steps p.tables e below (T9.setTop (mkF m 48 #[.val (.ref a1), .val (.ref a2), .unset] [])) tq → Steps p.tables e below (s₁.setTop (entryFrame m #[(.ref a1), (.ref a2)] 3)) tq := by
        refine fun tq kq => pre10 tq ?_
        show Steps p.tables e below (T9.setTop (mkF m 45 #[.val (.ref a1), .val (.ref a2), .unset] [(.ref s_IS), (.ref a2)])) _
        refine Jvm.RoadKit.acmp (g := (mkF m 45 #[.val (.ref a1), .val (.ref a2), .unset] [(.ref s_IS), (.ref a2)])) X9 hx rfl rfl rfl (pc0 := 45) (pc' := 48) (same := true) rfl (hb hby d2_45) rfl (decide_eq_true (congrArg Value.ref hc45)) (by decide) (by decide) ?_
        exact kq
      obtain ⟨fs, hr, hrun, hended, hW, hsame⟩ := X9.leave (v := some (.int (1 : Int32))) (fun h => by rw [Bd.returns] at h; cases h)
      refine ⟨_, _, pre11 _ ?_, hrun, hended, _, _, rfl, ?_, ⟨_, rfl⟩, hW, hsame.mono (by decide) (by decide)⟩
      · skip
        show Steps p.tables e below (T9.setTop (mkF m 48 #[.val (.ref a1), .val (.ref a2), .unset] [])) _
        refine XS.iconst X9.here hx rfl (hb hby d2_48) ?_
        show Steps p.tables e below (T9.setTop (mkF m 49 #[.val (.ref a1), .val (.ref a2), .unset] [(.int (1 : Int32))])) _
        refine XS.goto X9.here hx rfl (pc0 := 49) (pc' := 53) rfl (hb hby d2_49) (by decide) (by decide) ?_
        show Steps p.tables e below (T9.setTop (mkF m 53 #[.val (.ref a1), .val (.ref a2), .unset] [(.int (1 : Int32))])) _
        refine XS.istoreN X9.here hx rfl (hb hby d2_53) rfl (l' := #[.val (.ref a1), .val (.ref a2), .val (.int (1 : Int32))]) rfl ?_
        show Steps p.tables e below (T9.setTop (mkF m 54 #[.val (.ref a1), .val (.ref a2), .val (.int (1 : Int32))] [])) _
        refine XS.goto X9.here hx rfl (pc0 := 54) (pc' := 75) rfl (hb hby d2_54) (by decide) (by decide) ?_
        show Steps p.tables e below (T9.setTop (mkF m 75 #[.val (.ref a1), .val (.ref a2), .val (.int (1 : Int32))] [])) _
        refine XS.iloadN X9.here hx rfl (hb hby d2_75) rfl ?_
        show Steps p.tables e below (T9.setTop (mkF m 76 #[.val (.ref a1), .val (.ref a2), .val (.int (1 : Int32))] [(.int (1 : Int32))])) _
        exact retN X9 hx (t := .boolean) Bd.returns (by simp) (hb hby d2_76) hr
      · show Q2 Z a1 a2 s_IS h0 n0 _ T9.heap _
        rw [e9]
        exact ⟨(1 : Int32), rfl, N2, rfl, Or.inr (Or.inl (⟨hc38, hc45, rfl⟩))⟩
    · skip
      have pre12 : ∀ tq, Steps p.tables e below (T9.setTop (mkF m 52 #[.val (.ref a1), .val (.ref a2), .unset] [])) tq → Steps p.tables e below (s₁.setTop (entryFrame m #[(.ref a1), (.ref a2)] 3)) tq := by
        refine fun tq kq => pre10 tq ?_
        show Steps p.tables e below (T9.setTop (mkF m 45 #[.val (.ref a1), .val (.ref a2), .unset] [(.ref s_IS), (.ref a2)])) _
        refine Jvm.RoadKit.acmp (g := (mkF m 45 #[.val (.ref a1), .val (.ref a2), .unset] [(.ref s_IS), (.ref a2)])) X9 hx rfl rfl rfl (pc0 := 45) (pc' := 52) (same := false) rfl (hb hby d2_45) rfl (decide_eq_false fun q => hc45 (Value.ref.inj q)) (by decide) (by decide) ?_
        exact kq
      obtain ⟨fs, hr, hrun, hended, hW, hsame⟩ := X9.leave (v := some (.int (0 : Int32))) (fun h => by rw [Bd.returns] at h; cases h)
      refine ⟨_, _, pre12 _ ?_, hrun, hended, _, _, rfl, ?_, ⟨_, rfl⟩, hW, hsame.mono (by decide) (by decide)⟩
      · skip
        show Steps p.tables e below (T9.setTop (mkF m 52 #[.val (.ref a1), .val (.ref a2), .unset] [])) _
        refine XS.iconst X9.here hx rfl (hb hby d2_52) ?_
        show Steps p.tables e below (T9.setTop (mkF m 53 #[.val (.ref a1), .val (.ref a2), .unset] [(.int (0 : Int32))])) _
        refine XS.istoreN X9.here hx rfl (hb hby d2_53) rfl (l' := #[.val (.ref a1), .val (.ref a2), .val (.int (0 : Int32))]) rfl ?_
        show Steps p.tables e below (T9.setTop (mkF m 54 #[.val (.ref a1), .val (.ref a2), .val (.int (0 : Int32))] [])) _
        refine XS.goto X9.here hx rfl (pc0 := 54) (pc' := 75) rfl (hb hby d2_54) (by decide) (by decide) ?_
        show Steps p.tables e below (T9.setTop (mkF m 75 #[.val (.ref a1), .val (.ref a2), .val (.int (0 : Int32))] [])) _
        refine XS.iloadN X9.here hx rfl (hb hby d2_75) rfl ?_
        show Steps p.tables e below (T9.setTop (mkF m 76 #[.val (.ref a1), .val (.ref a2), .val (.int (0 : Int32))] [(.int (0 : Int32))])) _
        exact retN X9 hx (t := .boolean) Bd.returns (by simp) (hb hby d2_76) hr
      · show Q2 Z a1 a2 s_IS h0 n0 _ T9.heap _
        rw [e9]
        exact ⟨(0 : Int32), rfl, N2, rfl, Or.inr (Or.inr (⟨hc38, hc45, rfl⟩))⟩
/-! body 0 -/
theorem pn_0 : plainName "com/example/latchwork/latchwork/lock/LockModeIntentionPinLaw" = true := by first | (simp [plainName, overriddenIn]; done) | decide +kernel
theorem pd0_0 : parseMethodDescriptor "()Lcom/example/latchwork/latchwork/lock/LockMode;" = some ⟨[], some (.object "com/example/latchwork/latchwork/lock/LockMode")⟩ := by decide +kernel
theorem pd0_1 : parseMethodDescriptor "(Lcom/example/latchwork/latchwork/lock/LockMode;)Z" = some ⟨[(.object "com/example/latchwork/latchwork/lock/LockMode")], some .boolean⟩ := by decide +kernel
theorem ef_0 (m : MethodId) (p1 : Int32) : entryFrame m #[(.int p1)] maxLocals = mkF m 0 #[.val (.int p1), .unset, .unset, .unset, .unset] [] := by first | (simp [entryFrame, mkF, argsToLocals, Value.category, maxLocals]; done) | rfl
def Q0 (Z : State) (p1 : Int32) (s_IS : Addr) (s_IX : Addr) (s_S : Addr) (s_SIX : Addr) (s_X : Addr) (h0 : Heap) (n0 : Nat) (v : Option Value) (h : Heap) (L : List Loc) : Prop := v = some (.int 1) ∧ Fr n0 L
set_option maxRecDepth 65536 in
set_option maxHeartbeats 40000000 in
theorem rm0 (l : Launch) (Z : State) (a0 : Array Value) (hw : ∀ d ∈ tables_1, d.before a0 Z = true) (ws : List Jvm.Cond) (p1 : Int32) (s_IS : Addr) (s_IX : Addr) (s_S : Addr) (s_SIX : Addr) (s_X : Addr) (h0 : Heap) (n0 : Nat) (Z0 : n0 ≤ h0.size) (S_IS : Sta Z h0 "com/example/latchwork/latchwork/lock/LockMode" "IS" "Lcom/example/latchwork/latchwork/lock/LockMode;" (.ref s_IS)) (E_s_IS : Exa Z h0 s_IS "com/example/latchwork/latchwork/lock/LockMode") (S_IX : Sta Z h0 "com/example/latchwork/latchwork/lock/LockMode" "IX" "Lcom/example/latchwork/latchwork/lock/LockMode;" (.ref s_IX)) (E_s_IX : Exa Z h0 s_IX "com/example/latchwork/latchwork/lock/LockMode") (S_S : Sta Z h0 "com/example/latchwork/latchwork/lock/LockMode" "S" "Lcom/example/latchwork/latchwork/lock/LockMode;" (.ref s_S)) (E_s_S : Exa Z h0 s_S "com/example/latchwork/latchwork/lock/LockMode") (S_SIX : Sta Z h0 "com/example/latchwork/latchwork/lock/LockMode" "SIX" "Lcom/example/latchwork/latchwork/lock/LockMode;" (.ref s_SIX)) (E_s_SIX : Exa Z h0 s_SIX "com/example/latchwork/latchwork/lock/LockMode") (S_X : Sta Z h0 "com/example/latchwork/latchwork/lock/LockMode" "X" "Lcom/example/latchwork/latchwork/lock/LockMode;" (.ref s_X)) (E_s_X : Exa Z h0 s_X "com/example/latchwork/latchwork/lock/LockMode") (F_ordinal_s_S : Fld Z h0 s_S "java/lang/Enum" "ordinal" "I" (.int (2 : Int32))) (F_ordinal_s_IS : Fld Z h0 s_IS "java/lang/Enum" "ordinal" "I" (.int (0 : Int32))) (F_ordinal_s_SIX : Fld Z h0 s_SIX "java/lang/Enum" "ordinal" "I" (.int (3 : Int32))) (F_ordinal_s_IX : Fld Z h0 s_IX "java/lang/Enum" "ordinal" "I" (.int (1 : Int32))) (F_ordinal_s_X : Fld Z h0 s_X "java/lang/Enum" "ordinal" "I" (.int (4 : Int32))) (ne_s_IS_s_IX : s_IS ≠ s_IX) (ne_s_IS_s_S : s_IS ≠ s_S) (ne_s_IS_s_SIX : s_IS ≠ s_SIX) (ne_s_IS_s_X : s_IS ≠ s_X) (ne_s_IX_s_S : s_IX ≠ s_S) (ne_s_IX_s_SIX : s_IX ≠ s_SIX) (ne_s_IX_s_X : s_IX ≠ s_X) (ne_s_S_s_SIX : s_S ≠ s_SIX) (ne_s_S_s_X : s_S ≠ s_X) (ne_s_SIX_s_X : s_SIX ≠ s_X) :
    MetFree l x (head1 (Jvm.Cond.code x code maxLocals ret :: ws) room_1) (fun a U => a = #[(.int p1)] ∧ Z.Warmed39 U.vm ∧ U.heap = h0) (fun _ _ _ _ _ => True) (fun _ U o U' => ∃ v L, o = .returned v ∧ Q0 Z p1 s_IS s_IX s_S s_SIX s_X h0 n0 v U'.heap L ∧ FrameEnd U o U' L room_1.cells room_1.slots) := by
  refine MetFree.of_bodySF (plainFor_of_name pn_0) hisR ?_
  intro p e s m args below meth c s₁ Bd hml0 hP hK
  obtain ⟨rfl, hZ, hh⟩ := hP
  have hx := Bd.exec
  have hby := Bd.bytes
  have hml : c.maxLocals = 5 := hml0
  have hown : s.vm.findClass "com/example/latchwork/latchwork/lock/LockModeIntentionPinLaw" = some m.cls := findClass_of_methodNamed Bd.named
  have hnm := (name_of_methodNamed Bd.named Bd.method).1
  have X0 : Stand p l e room_1 s m #[(.int p1)] below meth c s₁ [] 0 0 := Stand.of_body Bd
  have e0 : s₁.heap = h0 := by rw [← hh, Bd.state]; rfl
  have N0 := Fr.nil n0
  have pre0 : ∀ tq, Steps p.tables e below (s₁.setTop (mkF m 0 #[.val (.int p1), .unset, .unset, .unset, .unset] [])) tq → Steps p.tables e below (s₁.setTop (entryFrame m #[(.int p1)] maxLocals)) tq := fun tq kq => castTop (ef_0 m p1) kq
  have pre1 : ∀ tq, Steps p.tables e below (s₁.setTop (mkF m 1 #[.val (.int p1), .unset, .unset, .unset, .unset] [(.int (5 : Int32))])) tq → Steps p.tables e below (s₁.setTop (entryFrame m #[(.int p1)] maxLocals)) tq := by
    refine fun tq kq => pre0 tq ?_
    show Steps p.tables e below (s₁.setTop (mkF m 0 #[.val (.int p1), .unset, .unset, .unset, .unset] [])) _
    refine XS.iconst X0.here hx rfl (hb hby at_0) ?_
    exact kq
  obtain ⟨T2, h2, k2, X2, e2, E2, A2, O2, st2⟩ := newR X0 hx hZ hown (hw _ (List.mem_of_getElem? (i := 0) rfl)) (hw _ (List.mem_of_getElem? (i := 1) rfl)) e0 (g := (mkF m 1 #[.val (.int p1), .unset, .unset, .unset, .unset] [(.int (5 : Int32))])) rfl (hb hby at_1) rfl (by decide) (cap := 5) (by decide) (by decide) (by decide) (by decide)
  obtain ⟨b2, g2⟩ : ∃ z, z = h0.size := ⟨_, rfl⟩
  rw [← g2] at A2 st2
  have g_b2 : n0 ≤ b2 := Nat.le_trans Z0 (Nat.le_of_eq g2.symm)
  have sz_b2 : h0.size ≤ b2 := Nat.le_trans (Nat.le_refl h0.size) (Nat.le_of_eq g2.symm)
  have ne3 : s_IS ≠ b2 := Nat.ne_of_lt (Nat.lt_of_lt_of_le E_s_IS.lt (Nat.le_of_eq g2.symm))
  have ne4 : s_IX ≠ b2 := Nat.ne_of_lt (Nat.lt_of_lt_of_le E_s_IX.lt (Nat.le_of_eq g2.symm))
  have ne5 : s_S ≠ b2 := Nat.ne_of_lt (Nat.lt_of_lt_of_le E_s_S.lt (Nat.le_of_eq g2.symm))
  have ne6 : s_SIX ≠ b2 := Nat.ne_of_lt (Nat.lt_of_lt_of_le E_s_SIX.lt (Nat.le_of_eq g2.symm))
  have ne7 : s_X ≠ b2 := Nat.ne_of_lt (Nat.lt_of_lt_of_le E_s_X.lt (Nat.le_of_eq g2.symm))
  have pre8 : ∀ tq, Steps p.tables e below (T2.setTop (mkF m 4 #[.val (.int p1), .unset, .unset, .unset, .unset] [(.ref b2)])) tq → Steps p.tables e below (s₁.setTop (entryFrame m #[(.int p1)] maxLocals)) tq := fun tq kq => pre1 tq (st2 _ kq)
  have f9 := S_IS.ext E2
  have f10 := E_s_IS.ext E2
  have f11 := S_IX.ext E2
  have f12 := E_s_IX.ext E2
  have f13 := S_S.ext E2
  have f14 := E_s_S.ext E2
  have f15 := S_SIX.ext E2
  have f16 := E_s_SIX.ext E2
  have f17 := S_X.ext E2
  have f18 := E_s_X.ext E2
  have f19 := F_ordinal_s_S.ext E2
  have f20 := F_ordinal_s_IS.ext E2
  have f21 := F_ordinal_s_SIX.ext E2
  have f22 := F_ordinal_s_IX.ext E2
  have f23 := F_ordinal_s_X.ext E2
  have K2 : Keep h0 h2 [] := Keep.ext (Keep.refl h0 []) E2
  have f24 : Arv Z h2 b2 k2 (.object "com/example/latchwork/latchwork/lock/LockMode") (5 : Int32) [.null, .null, .null, .null, .null] .null := (Arv.new A2 (by decide)).pad (pad_rep [] .null 5)
  have pre25 : ∀ tq, Steps p.tables e below (T2.setTop (mkF m 6 #[.val (.int p1), .unset, .unset, .unset, .unset] [(.int (0 : Int32)), (.ref b2), (.ref b2)])) tq → Steps p.tables e below (s₁.setTop (entryFrame m #[(.int p1)] maxLocals)) tq := by
    refine fun tq kq => pre8 tq ?_
    show Steps p.tables e below (T2.setTop (mkF m 4 #[.val (.int p1), .unset, .unset, .unset, .unset] [(.ref b2)])) _
    refine XS.dup X2.here hx rfl (hb hby at_4) rfl rfl ?_
    show Steps p.tables e below (T2.setTop (mkF m 5 #[.val (.int p1), .unset, .unset, .unset, .unset] [(.ref b2), (.ref b2)])) _
    refine XS.iconst X2.here hx rfl (hb hby at_5) ?_
    exact kq
  obtain ⟨T26, X26, e26, st26⟩ := getS2 X2 hx hZ hown (host := "") (Or.inl (hw _ (List.mem_of_getElem? (i := 2) rfl))) Via.refl e2 f9 (g := (mkF m 6 #[.val (.int p1), .unset, .unset, .unset, .unset] [(.int (0 : Int32)), (.ref b2), (.ref b2)])) rfl (hb hby at_6)
  have pre27 : ∀ tq, Steps p.tables e below (T26.setTop (mkF m 9 #[.val (.int p1), .unset, .unset, .unset, .unset] [(.ref s_IS), (.int (0 : Int32)), (.ref b2), (.ref b2)])) tq → Steps p.tables e below (s₁.setTop (entryFrame m #[(.int p1)] maxLocals)) tq := fun tq kq => pre25 tq (st26 _ kq)
  have Vc28 := f24
  obtain ⟨cl28, Ar28, Aq28, As28, An28, Ah28, Ag28⟩ := Vc28
  have hin28 : ¬ ((0 : Int32) < 0 ∨ cl28.slots.size ≤ ((0 : Int32)).toNatClampNeg) := inb_of As28 ⟨by decide, by decide⟩
  obtain ⟨T28, h28, X28, e28, W28, st28⟩ := stR X26 hx hZ e26 Ar28 (j := (0 : Int32)) hin28 rfl (Sto.ofV Ar28 Aq28 O2 (Ins.self f10)) (g := (mkF m 9 #[.val (.int p1), .unset, .unset, .unset, .unset] [(.ref s_IS), (.int (0 : Int32)), (.ref b2), (.ref b2)])) rfl rfl (hb hby at_9)
  have pre29 : ∀ tq, Steps p.tables e below (T28.setTop (mkF m 10 #[.val (.int p1), .unset, .unset, .unset, .unset] [(.ref b2)])) tq → Steps p.tables e below (s₁.setTop (entryFrame m #[(.int p1)] maxLocals)) tq := fun tq kq => pre27 tq (st28 _ kq)
  have N28 := Fr.snoc X28 N0 g_b2
  have K28 : Keep h0 h28 [] := Keep.wr K2 W28 (Or.inr sz_b2)
  have f30 := f9.wr W28
  have f31 := f10.wr W28
  have f32 := f11.wr W28
  have f33 := f12.wr W28
  have f34 := f13.wr W28
  have f35 := f14.wr W28
  have f36 := f15.wr W28
  have f37 := f16.wr W28
  have f38 := f17.wr W28
  have f39 := f18.wr W28
  have f40 := f19.other W28 (Or.inl ne5)
  have f41 := f20.other W28 (Or.inl ne3)
  have f42 := f21.other W28 (Or.inl ne6)
  have f43 := f22.other W28 (Or.inl ne4)
  have f44 := f23.other W28 (Or.inl ne7)
  have f45 : Arv Z h28 b2 k2 (.object "com/example/latchwork/latchwork/lock/LockMode") (5 : Int32) [(.ref s_IS), .null, .null, .null, .null] .null := Arv.set Ar28 Aq28 As28 An28 Ah28 Ag28 rfl W28 0 rfl (Nat.le_of_ble_eq_true rfl)
  have pre46 : ∀ tq, Steps p.tables e below (T28.setTop (mkF m 12 #[.val (.int p1), .unset, .unset, .unset, .unset] [(.int (1 : Int32)), (.ref b2), (.ref b2)])) tq → Steps p.tables e below (s₁.setTop (entryFrame m #[(.int p1)] maxLocals)) tq := by
    refine fun tq kq => pre29 tq ?_
    show Steps p.tables e below (T28.setTop (mkF m 10 #[.val (.int p1), .unset, .unset, .unset, .unset] [(.ref b2)])) _
    refine XS.dup X28.here hx rfl (hb hby at_10) rfl rfl ?_
    show Steps p.tables e below (T28.setTop (mkF m 11 #[.val (.int p1), .unset, .unset, .unset, .unset] [(.ref b2), (.ref b2)])) _
    refine XS.iconst X28.here hx rfl (hb hby at_11) ?_
    exact kq
  obtain ⟨T47, X47, e47, st47⟩ := getS2 X28 hx hZ hown (host := "") (Or.inl (hw _ (List.mem_of_getElem? (i := 6) rfl))) Via.refl e28 f32 (g := (mkF m 12 #[.val (.int p1), .unset, .unset, .unset, .unset] [(.int (1 : Int32)), (.ref b2), (.ref b2)])) rfl (hb hby at_12)
  have pre48 : ∀ tq, Steps p.tables e below (T47.setTop (mkF m 15 #[.val (.int p1), .unset, .unset, .unset, .unset] [(.ref s_IX), (.int (1 : Int32)), (.ref b2), (.ref b2)])) tq → Steps p.tables e below (s₁.setTop (entryFrame m #[(.int p1)] maxLocals)) tq := fun tq kq => pre46 tq (st47 _ kq)
  have Vc49 := f45
  obtain ⟨cl49, Ar49, Aq49, As49, An49, Ah49, Ag49⟩ := Vc49
  have hin49 : ¬ ((1 : Int32) < 0 ∨ cl49.slots.size ≤ ((1 : Int32)).toNatClampNeg) := inb_of As49 ⟨by decide, by decide⟩
  obtain ⟨T49, h49, X49, e49, W49, st49⟩ := stR X47 hx hZ e47 Ar49 (j := (1 : Int32)) hin49 rfl (Sto.ofV Ar49 Aq49 O2 (Ins.self f33)) (g := (mkF m 15 #[.val (.int p1), .unset, .unset, .unset, .unset] [(.ref s_IX), (.int (1 : Int32)), (.ref b2), (.ref b2)])) rfl rfl (hb hby at_15)
  have pre50 : ∀ tq, Steps p.tables e below (T49.setTop (mkF m 16 #[.val (.int p1), .unset, .unset, .unset, .unset] [(.ref b2)])) tq → Steps p.tables e below (s₁.setTop (entryFrame m #[(.int p1)] maxLocals)) tq := fun tq kq => pre48 tq (st49 _ kq)
  have N49 := Fr.snoc X49 N28 g_b2
  have K49 : Keep h0 h49 [] := Keep.wr K28 W49 (Or.inr sz_b2)
  have f51 := f30.wr W49
  have f52 := f31.wr W49
  have f53 := f32.wr W49
  have f54 := f33.wr W49
  have f55 := f34.wr W49
  have f56 := f35.wr W49
  have f57 := f36.wr W49
  have f58 := f37.wr W49
  have f59 := f38.wr W49
  have f60 := f39.wr W49
  have f61 := f40.other W49 (Or.inl ne5)
  have f62 := f41.other W49 (Or.inl ne3)
  have f63 := f42.other W49 (Or.inl ne6)
  have f64 := f43.other W49 (Or.inl ne4)
  have f65 := f44.other W49 (Or.inl ne7)
  have f66 : Arv Z h49 b2 k2 (.object "com/example/latchwork/latchwork/lock/LockMode") (5 : Int32) [(.ref s_IS), (.ref s_IX), .null, .null, .null] .null := Arv.set Ar49 Aq49 As49 An49 Ah49 Ag49 rfl W49 1 rfl (Nat.le_of_ble_eq_true rfl)
  have pre67 : ∀ tq, Steps p.tables e below (T49.setTop (mkF m 18 #[.val (.int p1), .unset, .unset, .unset, .unset] [(.int (2 : Int32)), (.ref b2), (.ref b2)])) tq → Steps p.tables e below (s₁.setTop (entryFrame m #[(.int p1)] maxLocals)) tq := by
    refine fun tq kq => pre50 tq ?_
    show Steps p.tables e below (T49.setTop (mkF m 16 #[.val (.int p1), .unset, .unset, .unset, .unset] [(.ref b2)])) _
    refine XS.dup X49.here hx rfl (hb hby at_16) rfl rfl ?_
    show Steps p.tables e below (T49.setTop (mkF m 17 #[.val (.int p1), .unset, .unset, .unset, .unset] [(.ref b2), (.ref b2)])) _
    refine XS.iconst X49.here hx rfl (hb hby at_17) ?_
    exact kq
  obtain ⟨T68, X68, e68, st68⟩ := getS2 X49 hx hZ hown (host := "") (Or.inl (hw _ (List.mem_of_getElem? (i := 8) rfl))) Via.refl e49 f55 (g := (mkF m 18 #[.val (.int p1), .unset, .unset, .unset, .unset] [(.int (2 : Int32)), (.ref b2), (.ref b2)])) rfl (hb hby at_18)
  have pre69 : ∀ tq, Steps p.tables e below (T68.setTop (mkF m 21 #[.val (.int p1), .unset, .unset, .unset, .unset] [(.ref s_S), (.int (2 : Int32)), (.ref b2), (.ref b2)])) tq → Steps p.tables e below (s₁.setTop (entryFrame m #[(.int p1)] maxLocals)) tq := fun tq kq => pre67 tq (st68 _ kq)
  have Vc70 := f66
  obtain ⟨cl70, Ar70, Aq70, As70, An70, Ah70, Ag70⟩ := Vc70
  have hin70 : ¬ ((2 : Int32) < 0 ∨ cl70.slots.size ≤ ((2 : Int32)).toNatClampNeg) := inb_of As70 ⟨by decide, by decide⟩
  obtain ⟨T70, h70, X70, e70, W70, st70⟩ := stR X68 hx hZ e68 Ar70 (j := (2 : Int32)) hin70 rfl (Sto.ofV Ar70 Aq70 O2 (Ins.self f56)) (g := (mkF m 21 #[.val (.int p1), .unset, .unset, .unset, .unset] [(.ref s_S), (.int (2 : Int32)), (.ref b2), (.ref b2)])) rfl rfl (hb hby at_21)
  have pre71 : ∀ tq, Steps p.tables e below (T70.setTop (mkF m 22 #[.val (.int p1), .unset, .unset, .unset, .unset] [(.ref b2)])) tq → Steps p.tables e below (s₁.setTop (entryFrame m #[(.int p1)] maxLocals)) tq := fun tq kq => pre69 tq (st70 _ kq)
  have N70 := Fr.snoc X70 N49 g_b2
  have K70 : Keep h0 h70 [] := Keep.wr K49 W70 (Or.inr sz_b2)
  have f72 := f51.wr W70
  have f73 := f52.wr W70
  have f74 := f53.wr W70
  have f75 := f54.wr W70
  have f76 := f55.wr W70
  have f77 := f56.wr W70
  have f78 := f57.wr W70
  have f79 := f58.wr W70
  have f80 := f59.wr W70
  have f81 := f60.wr W70
  have f82 := f61.other W70 (Or.inl ne5)
  have f83 := f62.other W70 (Or.inl ne3)
  have f84 := f63.other W70 (Or.inl ne6)
  have f85 := f64.other W70 (Or.inl ne4)
  have f86 := f65.other W70 (Or.inl ne7)
  have f87 : Arv Z h70 b2 k2 (.object "com/example/latchwork/latchwork/lock/LockMode") (5 : Int32) [(.ref s_IS), (.ref s_IX), (.ref s_S), .null, .null] .null := Arv.set Ar70 Aq70 As70 An70 Ah70 Ag70 rfl W70 2 rfl (Nat.le_of_ble_eq_true rfl)
  have pre88 : ∀ tq, Steps p.tables e below (T70.setTop (mkF m 24 #[.val (.int p1), .unset, .unset, .unset, .unset] [(.int (3 : Int32)), (.ref b2), (.ref b2)])) tq → Steps p.tables e below (s₁.setTop (entryFrame m #[(.int p1)] maxLocals)) tq := by
    refine fun tq kq => pre71 tq ?_
    show Steps p.tables e below (T70.setTop (mkF m 22 #[.val (.int p1), .unset, .unset, .unset, .unset] [(.ref b2)])) _
    refine XS.dup X70.here hx rfl (hb hby at_22) rfl rfl ?_
    show Steps p.tables e below (T70.setTop (mkF m 23 #[.val (.int p1), .unset, .unset, .unset, .unset] [(.ref b2), (.ref b2)])) _
    refine XS.iconst X70.here hx rfl (hb hby at_23) ?_
    exact kq
  obtain ⟨T89, X89, e89, st89⟩ := getS2 X70 hx hZ hown (host := "") (Or.inl (hw _ (List.mem_of_getElem? (i := 10) rfl))) Via.refl e70 f78 (g := (mkF m 24 #[.val (.int p1), .unset, .unset, .unset, .unset] [(.int (3 : Int32)), (.ref b2), (.ref b2)])) rfl (hb hby at_24)
  have pre90 : ∀ tq, Steps p.tables e below (T89.setTop (mkF m 27 #[.val (.int p1), .unset, .unset, .unset, .unset] [(.ref s_SIX), (.int (3 : Int32)), (.ref b2), (.ref b2)])) tq → Steps p.tables e below (s₁.setTop (entryFrame m #[(.int p1)] maxLocals)) tq := fun tq kq => pre88 tq (st89 _ kq)
  have Vc91 := f87
  obtain ⟨cl91, Ar91, Aq91, As91, An91, Ah91, Ag91⟩ := Vc91
  have hin91 : ¬ ((3 : Int32) < 0 ∨ cl91.slots.size ≤ ((3 : Int32)).toNatClampNeg) := inb_of As91 ⟨by decide, by decide⟩
  obtain ⟨T91, h91, X91, e91, W91, st91⟩ := stR X89 hx hZ e89 Ar91 (j := (3 : Int32)) hin91 rfl (Sto.ofV Ar91 Aq91 O2 (Ins.self f79)) (g := (mkF m 27 #[.val (.int p1), .unset, .unset, .unset, .unset] [(.ref s_SIX), (.int (3 : Int32)), (.ref b2), (.ref b2)])) rfl rfl (hb hby at_27)
  have pre92 : ∀ tq, Steps p.tables e below (T91.setTop (mkF m 28 #[.val (.int p1), .unset, .unset, .unset, .unset] [(.ref b2)])) tq → Steps p.tables e below (s₁.setTop (entryFrame m #[(.int p1)] maxLocals)) tq := fun tq kq => pre90 tq (st91 _ kq)
  have N91 := Fr.snoc X91 N70 g_b2
  have K91 : Keep h0 h91 [] := Keep.wr K70 W91 (Or.inr sz_b2)
  have f93 := f72.wr W91
  have f94 := f73.wr W91
  have f95 := f74.wr W91
  have f96 := f75.wr W91
  have f97 := f76.wr W91
  have f98 := f77.wr W91
  have f99 := f78.wr W91
  have f100 := f79.wr W91
  have f101 := f80.wr W91
  have f102 := f81.wr W91
  have f103 := f82.other W91 (Or.inl ne5)
  have f104 := f83.other W91 (Or.inl ne3)
  have f105 := f84.other W91 (Or.inl ne6)
  have f106 := f85.other W91 (Or.inl ne4)
  have f107 := f86.other W91 (Or.inl ne7)
  have f108 : Arv Z h91 b2 k2 (.object "com/example/latchwork/latchwork/lock/LockMode") (5 : Int32) [(.ref s_IS), (.ref s_IX), (.ref s_S), (.ref s_SIX), .null] .null := Arv.set Ar91 Aq91 As91 An91 Ah91 Ag91 rfl W91 3 rfl (Nat.le_of_ble_eq_true rfl)
  have pre109 : ∀ tq, Steps p.tables e below (T91.setTop (mkF m 30 #[.val (.int p1), .unset, .unset, .unset, .unset] [(.int (4 : Int32)), (.ref b2), (.ref b2)])) tq → Steps p.tables e below (s₁.setTop (entryFrame m #[(.int p1)] maxLocals)) tq := by
    refine fun tq kq => pre92 tq ?_
    show Steps p.tables e below (T91.setTop (mkF m 28 #[.val (.int p1), .unset, .unset, .unset, .unset] [(.ref b2)])) _
    refine XS.dup X91.here hx rfl (hb hby at_28) rfl rfl ?_
    show Steps p.tables e below (T91.setTop (mkF m 29 #[.val (.int p1), .unset, .unset, .unset, .unset] [(.ref b2), (.ref b2)])) _
    refine XS.iconst X91.here hx rfl (hb hby at_29) ?_
    exact kq
  obtain ⟨T110, X110, e110, st110⟩ := getS2 X91 hx hZ hown (host := "") (Or.inl (hw _ (List.mem_of_getElem? (i := 12) rfl))) Via.refl e91 f101 (g := (mkF m 30 #[.val (.int p1), .unset, .unset, .unset, .unset] [(.int (4 : Int32)), (.ref b2), (.ref b2)])) rfl (hb hby at_30)
  have pre111 : ∀ tq, Steps p.tables e below (T110.setTop (mkF m 33 #[.val (.int p1), .unset, .unset, .unset, .unset] [(.ref s_X), (.int (4 : Int32)), (.ref b2), (.ref b2)])) tq → Steps p.tables e below (s₁.setTop (entryFrame m #[(.int p1)] maxLocals)) tq := fun tq kq => pre109 tq (st110 _ kq)
  have Vc112 := f108
  obtain ⟨cl112, Ar112, Aq112, As112, An112, Ah112, Ag112⟩ := Vc112
  have hin112 : ¬ ((4 : Int32) < 0 ∨ cl112.slots.size ≤ ((4 : Int32)).toNatClampNeg) := inb_of As112 ⟨by decide, by decide⟩
  obtain ⟨T112, h112, X112, e112, W112, st112⟩ := stR X110 hx hZ e110 Ar112 (j := (4 : Int32)) hin112 rfl (Sto.ofV Ar112 Aq112 O2 (Ins.self f102)) (g := (mkF m 33 #[.val (.int p1), .unset, .unset, .unset, .unset] [(.ref s_X), (.int (4 : Int32)), (.ref b2), (.ref b2)])) rfl rfl (hb hby at_33)
  have pre113 : ∀ tq, Steps p.tables e below (T112.setTop (mkF m 34 #[.val (.int p1), .unset, .unset, .unset, .unset] [(.ref b2)])) tq → Steps p.tables e below (s₁.setTop (entryFrame m #[(.int p1)] maxLocals)) tq := fun tq kq => pre111 tq (st112 _ kq)
  have N112 := Fr.snoc X112 N91 g_b2
  have K112 : Keep h0 h112 [] := Keep.wr K91 W112 (Or.inr sz_b2)
  have f114 := f93.wr W112
  have f115 := f94.wr W112
  have f116 := f95.wr W112
  have f117 := f96.wr W112
  have f118 := f97.wr W112
  have f119 := f98.wr W112
  have f120 := f99.wr W112
  have f121 := f100.wr W112
  have f122 := f101.wr W112
  have f123 := f102.wr W112
  have f124 := f103.other W112 (Or.inl ne5)
  have f125 := f104.other W112 (Or.inl ne3)
  have f126 := f105.other W112 (Or.inl ne6)
  have f127 := f106.other W112 (Or.inl ne4)
  have f128 := f107.other W112 (Or.inl ne7)
  have f129 : Arv Z h112 b2 k2 (.object "com/example/latchwork/latchwork/lock/LockMode") (5 : Int32) [(.ref s_IS), (.ref s_IX), (.ref s_S), (.ref s_SIX), (.ref s_X)] .null := Arv.set Ar112 Aq112 As112 An112 Ah112 Ag112 rfl W112 4 rfl (Nat.le_of_ble_eq_true rfl)
  have pre130 : ∀ tq, Steps p.tables e below (T112.setTop (mkF m 42 #[.val (.int p1), .val (.ref b2), .unset, .unset, .unset] [(.int ((p1 &&& (2147483647 : Int32)) - ((p1 &&& (2147483647 : Int32)) / (5 : Int32)) * (5 : Int32))), (.ref b2)])) tq → Steps p.tables e below (s₁.setTop (entryFrame m #[(.int p1)] maxLocals)) tq := by
    refine fun tq kq => pre113 tq ?_
    show Steps p.tables e below (T112.setTop (mkF m 34 #[.val (.int p1), .unset, .unset, .unset, .unset] [(.ref b2)])) _
    refine XS.astoreN X112.here hx rfl (hb hby at_34) rfl rfl (l' := #[.val (.int p1), .val (.ref b2), .unset, .unset, .unset]) rfl ?_
    show Steps p.tables e below (T112.setTop (mkF m 35 #[.val (.int p1), .val (.ref b2), .unset, .unset, .unset] [])) _
    refine XS.aloadN X112.here hx rfl (hb hby at_35) rfl rfl ?_
    show Steps p.tables e below (T112.setTop (mkF m 36 #[.val (.int p1), .val (.ref b2), .unset, .unset, .unset] [(.ref b2)])) _
    refine XS.iloadN X112.here hx rfl (hb hby at_36) rfl ?_
    show Steps p.tables e below (T112.setTop (mkF m 37 #[.val (.int p1), .val (.ref b2), .unset, .unset, .unset] [(.int p1), (.ref b2)])) _
    refine X112.ldcInt hx hown (mvT hZ (hw _ (List.mem_of_getElem? (i := 14) rfl))) (g := (mkF m 37 #[.val (.int p1), .val (.ref b2), .unset, .unset, .unset] [(.int p1), (.ref b2)])) rfl (hb hby at_37) _ ?_
    show Steps p.tables e below (T112.setTop (mkF m 39 #[.val (.int p1), .val (.ref b2), .unset, .unset, .unset] [(.int (2147483647 : Int32)), (.int p1), (.ref b2)])) _
    refine XS.iand X112.here hx rfl (hb hby at_39) rfl ?_
    show Steps p.tables e below (T112.setTop (mkF m 40 #[.val (.int p1), .val (.ref b2), .unset, .unset, .unset] [(.int (p1 &&& (2147483647 : Int32))), (.ref b2)])) _
    refine XS.iconst X112.here hx rfl (hb hby at_40) ?_
    show Steps p.tables e below (T112.setTop (mkF m 41 #[.val (.int p1), .val (.ref b2), .unset, .unset, .unset] [(.int (5 : Int32)), (.int (p1 &&& (2147483647 : Int32))), (.ref b2)])) _
    refine XS.irem X112.here hx rfl (hb hby at_41) rfl (by decide) ?_
    exact kq
  obtain ⟨v132, hv_v132, pre131⟩ : ∃ v132 : Int32, v132 = ((p1 &&& (2147483647 : Int32)) - ((p1 &&& (2147483647 : Int32)) / (5 : Int32)) * (5 : Int32)) ∧ (∀ tq, Steps p.tables e below (T112.setTop (mkF m 42 #[.val (.int p1), .val (.ref b2), .unset, .unset, .unset] [(.int v132), (.ref b2)])) tq → Steps p.tables e below (s₁.setTop (entryFrame m #[(.int p1)] maxLocals)) tq) := by
    refine ⟨_, rfl, fun tq kq => pre130 tq ?_⟩
    exact kq
  have hcs42 : v132 = (0 : Int32) ∨ v132 = (1 : Int32) ∨ v132 = (2 : Int32) ∨ v132 = (3 : Int32) ∨ v132 = (4 : Int32) := by
    have q := own_mr p1 (5 : Int32) (by decide)
    rw [← hv_v132] at q
    exact own_5 q.1 q.2
  rcases hcs42 with hk | hk | hk | hk | hk
  · skip
    subst hk
    have Vc133 := f129
    obtain ⟨cl133, Ar133, Aq133, As133, An133, Ah133, Ag133⟩ := Vc133
    have hin133 : ¬ ((0 : Int32) < 0 ∨ cl133.slots.size ≤ ((0 : Int32)).toNatClampNeg) := inb_of As133 ⟨by decide, by decide⟩
    have pre134 : ∀ tq, Steps p.tables e below (T112.setTop (mkF m 43 #[.val (.int p1), .val (.ref b2), .unset, .unset, .unset] [(.ref s_IS)])) tq → Steps p.tables e below (s₁.setTop (entryFrame m #[(.int p1)] maxLocals)) tq := fun tq kq => pre131 tq (X112.aaload hx (j := (0 : Int32)) (v := (.ref s_IS)) (by rw [e112]; exact Ar133.1) (State.isArrayOf_alike hZ.alike Ar133.2.1) rfl Ar133.2.2 hin133 (Has.at Ah133 hin133 rfl) (g := (mkF m 42 #[.val (.int p1), .val (.ref b2), .unset, .unset, .unset] [(.int (0 : Int32)), (.ref b2)])) rfl rfl (hb hby at_42) _ kq)
    have pre135 : ∀ tq, Steps p.tables e below (T112.setTop (mkF m 45 #[.val (.int p1), .val (.ref b2), .val (.ref s_IS), .unset, .unset] [(.ref s_IS)])) tq → Steps p.tables e below (s₁.setTop (entryFrame m #[(.int p1)] maxLocals)) tq := by
      refine fun tq kq => pre134 tq ?_
      show Steps p.tables e below (T112.setTop (mkF m 43 #[.val (.int p1), .val (.ref b2), .unset, .unset, .unset] [(.ref s_IS)])) _
      refine XS.astoreN X112.here hx rfl (hb hby at_43) rfl rfl (l' := #[.val (.int p1), .val (.ref b2), .val (.ref s_IS), .unset, .unset]) rfl ?_
      show Steps p.tables e below (T112.setTop (mkF m 44 #[.val (.int p1), .val (.ref b2), .val (.ref s_IS), .unset, .unset] [])) _
      refine XS.aloadN X112.here hx rfl (hb hby at_44) rfl rfl ?_
      exact kq
    have Z136 : n0 ≤ h112.size := (Nat.le_trans (Nat.le_trans (Nat.le_trans (Nat.le_trans (Nat.le_trans (Nat.le_trans Z0 E2.1) (Keep.of_wr W28).1) (Keep.of_wr W49).1) (Keep.of_wr W70).1) (Keep.of_wr W91).1) (Keep.of_wr W112).1)
    obtain ⟨cq136, kq136, q136a, q136b, q136c⟩ := isOf hZ e112 f115
    obtain ⟨_, _, ⟨T136, L136, k136, n136⟩, -, X136, ⟨Lc136, hQ136, l136, y136, z136⟩, st136⟩ := X112.virtualBack hx (y := (⟨"com/example/latchwork/latchwork/lock/LockMode", "intention", "()Lcom/example/latchwork/latchwork/lock/LockMode;"⟩ : MethodName)) (z := (⟨"com/example/latchwork/latchwork/lock/LockMode", "intention", "()Lcom/example/latchwork/latchwork/lock/LockMode;"⟩ : MethodName)) hown (mvT hZ (hw _ (List.mem_of_getElem? (i := 15) rfl))) (mvT hZ (hw _ (List.mem_of_getElem? (i := 16) rfl))) (notFace_of_selects (args := #[]) (mvT hZ (hw _ (List.mem_of_getElem? (i := 18) rfl)))) (mvT hZ (hw _ (List.mem_of_getElem? (i := 18) rfl))) (mvT hZ (hw _ (List.mem_of_getElem? (i := 17) rfl))) (by decide) (backOf (W := 0) (rm1 l Z a0 hw [] s_IS s_IS s_S s_IX h112 n0 Z136 f114 f118 f116) hZ (hw _ (List.mem_of_getElem? (i := 19) rfl)) (hw _ (List.mem_of_getElem? (i := 3) rfl)) (by decide) (by decide)) q136a q136c (g := (mkF m 45 #[.val (.int p1), .val (.ref b2), .val (.ref s_IS), .unset, .unset] [(.ref s_IS)])) rfl (by rw [hml]; rfl) (Steps.refl _) (argsL := []) (rest := []) (lenOf pd0_0 rfl) rfl (by show 2 * 0 + _ ≤ _; exact Nat.le_of_eq rfl) (hb hby at_45) (fun _ _ => ⟨rfl, e112, (by decide : (0 + 1) + 0 ≤ _), (by decide : (0 + 5) + 0 ≤ _)⟩)
    dsimp only [Pt.U, Pt.locs, Pt.cells, Pt.slots] at X136 l136 y136 z136 st136 hQ136
    subst l136 y136 z136
    obtain ⟨r137, rfl, Nq136, ehq136, hq136⟩ := hQ136
    have N136 := Fr.app N112 Nq136
    have pre138 : ∀ tq, Steps p.tables e below (T136.setTop (mkF m 48 #[.val (.int p1), .val (.ref b2), .val (.ref s_IS), .unset, .unset] [(.ref r137)])) tq → Steps p.tables e below (s₁.setTop (entryFrame m #[(.int p1)] maxLocals)) tq := fun tq kq => pre135 tq (st136.trans kq)
    have hr_r137 : r137 = s_IS := by rcases hq136 with ⟨q1, rfl⟩ | ⟨q1, q2, rfl⟩ | ⟨q1, q2, rfl⟩ <;> first | rfl | exact absurd q1 (by assumption) | exact absurd q2 (by assumption) | exact absurd q1.symm (by assumption) | exact absurd q2.symm (by assumption) | exact absurd rfl q1 | exact absurd rfl q2
    have hr_r137_s := hr_r137.symm; subst hr_r137_s
    have pre139 : ∀ tq, Steps p.tables e below (T136.setTop (mkF m 49 #[.val (.int p1), .val (.ref b2), .val (.ref s_IS), .val (.ref s_IS), .unset] [])) tq → Steps p.tables e below (s₁.setTop (entryFrame m #[(.int p1)] maxLocals)) tq := by
      refine fun tq kq => pre138 tq ?_
      show Steps p.tables e below (T136.setTop (mkF m 48 #[.val (.int p1), .val (.ref b2), .val (.ref s_IS), .unset, .unset] [(.ref s_IS)])) _
      refine XS.astoreN X136.here hx rfl (hb hby at_48) rfl rfl (l' := #[.val (.int p1), .val (.ref b2), .val (.ref s_IS), .val (.ref s_IS), .unset]) rfl ?_
      exact kq
    obtain ⟨T140, X140, e140, st140⟩ := getS2 X136 hx hZ hown (host := "") (Or.inl (hw _ (List.mem_of_getElem? (i := 8) rfl))) Via.refl ehq136 f118 (g := (mkF m 49 #[.val (.int p1), .val (.ref b2), .val (.ref s_IS), .val (.ref s_IS), .unset] [])) rfl (hb hby at_49)
    have pre141 : ∀ tq, Steps p.tables e below (T140.setTop (mkF m 52 #[.val (.int p1), .val (.ref b2), .val (.ref s_IS), .val (.ref s_IS), .unset] [(.ref s_S)])) tq → Steps p.tables e below (s₁.setTop (entryFrame m #[(.int p1)] maxLocals)) tq := fun tq kq => pre139 tq (st140 _ kq)
    have pre142 : ∀ tq, Steps p.tables e below (T140.setTop (mkF m 53 #[.val (.int p1), .val (.ref b2), .val (.ref s_IS), .val (.ref s_IS), .unset] [(.ref s_IS), (.ref s_S)])) tq → Steps p.tables e below (s₁.setTop (entryFrame m #[(.int p1)] maxLocals)) tq := by
      refine fun tq kq => pre141 tq ?_
      show Steps p.tables e below (T140.setTop (mkF m 52 #[.val (.int p1), .val (.ref b2), .val (.ref s_IS), .val (.ref s_IS), .unset] [(.ref s_S)])) _
      refine XS.aloadN X140.here hx rfl (hb hby at_52) rfl rfl ?_
      exact kq
    have Z143 : n0 ≤ h112.size := (Nat.le_trans (Nat.le_trans (Nat.le_trans (Nat.le_trans (Nat.le_trans (Nat.le_trans Z0 E2.1) (Keep.of_wr W28).1) (Keep.of_wr W49).1) (Keep.of_wr W70).1) (Keep.of_wr W91).1) (Keep.of_wr W112).1)
    obtain ⟨cq143, kq143, q143a, q143b, q143c⟩ := isOf hZ e140 f119
    obtain ⟨_, _, ⟨T143, L143, k143, n143⟩, -, X143, ⟨Lc143, hQ143, l143, y143, z143⟩, st143⟩ := X140.virtualBack hx (y := (⟨"com/example/latchwork/latchwork/lock/LockMode", "covers", "(Lcom/example/latchwork/latchwork/lock/LockMode;)Z"⟩ : MethodName)) (z := (⟨"com/example/latchwork/latchwork/lock/LockMode", "covers", "(Lcom/example/latchwork/latchwork/lock/LockMode;)Z"⟩ : MethodName)) hown (mvT hZ (hw _ (List.mem_of_getElem? (i := 21) rfl))) (mvT hZ (hw _ (List.mem_of_getElem? (i := 22) rfl))) (notFace_of_selects (args := #[]) (mvT hZ (hw _ (List.mem_of_getElem? (i := 24) rfl)))) (mvT hZ (hw _ (List.mem_of_getElem? (i := 24) rfl))) (mvT hZ (hw _ (List.mem_of_getElem? (i := 23) rfl))) (by decide) (backOf (W := 0) (rm2 l Z a0 hw [] s_S s_IS s_IS h112 n0 Z143 f114 f119 f124) hZ (hw _ (List.mem_of_getElem? (i := 25) rfl)) (hw _ (List.mem_of_getElem? (i := 3) rfl)) (by decide) (by decide)) q143a q143c (g := (mkF m 53 #[.val (.int p1), .val (.ref b2), .val (.ref s_IS), .val (.ref s_IS), .unset] [(.ref s_IS), (.ref s_S)])) rfl (by rw [hml]; rfl) (Steps.refl _) (argsL := [(.ref s_IS)]) (rest := []) (lenOf pd0_1 rfl) rfl (by show 2 * 0 + _ ≤ _; exact Nat.le_of_eq rfl) (hb hby at_53) (fun _ _ => ⟨rfl, e140, (by decide : ((0 + 1) + 0) + 0 ≤ _), (by decide : ((0 + 5) + 0) + 0 ≤ _)⟩)
    dsimp only [Pt.U, Pt.locs, Pt.cells, Pt.slots] at X143 l143 y143 z143 st143 hQ143
    subst l143 y143 z143
    obtain ⟨r144, rfl, Nq143, ehq143, hq143⟩ := hQ143
    have N143 := Fr.app N136 Nq143
    have pre145 : ∀ tq, Steps p.tables e below (T143.setTop (mkF m 56 #[.val (.int p1), .val (.ref b2), .val (.ref s_IS), .val (.ref s_IS), .unset] [(.int r144)])) tq → Steps p.tables e below (s₁.setTop (entryFrame m #[(.int p1)] maxLocals)) tq := fun tq kq => pre142 tq (st143.trans kq)
    have hr_r144 : r144 = (1 : Int32) := by rcases hq143 with ⟨q1, rfl⟩ | ⟨q1, q2, rfl⟩ | ⟨q1, q2, rfl⟩ <;> first | rfl | exact absurd q1 (by assumption) | exact absurd q2 (by assumption) | exact absurd q1.symm (by assumption) | exact absurd q2.symm (by assumption) | exact absurd rfl q1 | exact absurd rfl q2
    subst hr_r144
    have pre146 : ∀ tq, Steps p.tables e below (T143.setTop (mkF m 59 #[.val (.int p1), .val (.ref b2), .val (.ref s_IS), .val (.ref s_IS), .unset] [])) tq → Steps p.tables e below (s₁.setTop (entryFrame m #[(.int p1)] maxLocals)) tq := by
      refine fun tq kq => pre145 tq ?_
      show Steps p.tables e below (T143.setTop (mkF m 56 #[.val (.int p1), .val (.ref b2), .val (.ref s_IS), .val (.ref s_IS), .unset] [(.int (1 : Int32))])) _
      refine XS.ifNo X143.here hx rfl (hb hby at_56) rfl ((if0 _ _).trans (feq (by decide : ¬ ((1 : Int32) = (0 : Int32)))).1) ?_
      exact kq
    obtain ⟨T147, X147, e147, st147⟩ := getS2 X143 hx hZ hown (host := "") (Or.inl (hw _ (List.mem_of_getElem? (i := 2) rfl))) Via.refl ehq143 f114 (g := (mkF m 59 #[.val (.int p1), .val (.ref b2), .val (.ref s_IS), .val (.ref s_IS), .unset] [])) rfl (hb hby at_59)
    have pre148 : ∀ tq, Steps p.tables e below (T147.setTop (mkF m 62 #[.val (.int p1), .val (.ref b2), .val (.ref s_IS), .val (.ref s_IS), .unset] [(.ref s_IS)])) tq → Steps p.tables e below (s₁.setTop (entryFrame m #[(.int p1)] maxLocals)) tq := fun tq kq => pre146 tq (st147 _ kq)
    have pre149 : ∀ tq, Steps p.tables e below (T147.setTop (mkF m 78 #[.val (.int p1), .val (.ref b2), .val (.ref s_IS), .val (.ref s_IS), .val (.ref s_IS)] [])) tq → Steps p.tables e below (s₁.setTop (entryFrame m #[(.int p1)] maxLocals)) tq := by
      refine fun tq kq => pre148 tq ?_
      show Steps p.tables e below (T147.setTop (mkF m 62 #[.val (.int p1), .val (.ref b2), .val (.ref s_IS), .val (.ref s_IS), .unset] [(.ref s_IS)])) _
      refine XS.goto X147.here hx rfl (pc0 := 62) (pc' := 68) rfl (hb hby at_62) (by decide) (by decide) ?_
      show Steps p.tables e below (T147.setTop (mkF m 68 #[.val (.int p1), .val (.ref b2), .val (.ref s_IS), .val (.ref s_IS), .unset] [(.ref s_IS)])) _
      refine XS.astore X147.here hx rfl (hb hby at_68) rfl rfl (l' := #[.val (.int p1), .val (.ref b2), .val (.ref s_IS), .val (.ref s_IS), .val (.ref s_IS)]) rfl ?_
      show Steps p.tables e below (T147.setTop (mkF m 70 #[.val (.int p1), .val (.ref b2), .val (.ref s_IS), .val (.ref s_IS), .val (.ref s_IS)] [])) _
      refine XS.aloadN X147.here hx rfl (hb hby at_70) rfl rfl ?_
      show Steps p.tables e below (T147.setTop (mkF m 71 #[.val (.int p1), .val (.ref b2), .val (.ref s_IS), .val (.ref s_IS), .val (.ref s_IS)] [(.ref s_IS)])) _
      refine XS.aload X147.here hx rfl (hb hby at_71) rfl rfl ?_
      show Steps p.tables e below (T147.setTop (mkF m 73 #[.val (.int p1), .val (.ref b2), .val (.ref s_IS), .val (.ref s_IS), .val (.ref s_IS)] [(.ref s_IS), (.ref s_IS)])) _
      refine Jvm.RoadKit.acmp (g := (mkF m 73 #[.val (.int p1), .val (.ref b2), .val (.ref s_IS), .val (.ref s_IS), .val (.ref s_IS)] [(.ref s_IS), (.ref s_IS)])) X147 hx rfl rfl rfl (pc0 := 73) (pc' := 78) (same := true) rfl (hb hby at_73) rfl (decide_eq_true rfl) (by decide) (by decide) ?_
      exact kq
    have pre150 : ∀ tq, Steps p.tables e below (T147.setTop (mkF m 79 #[.val (.int p1), .val (.ref b2), .val (.ref s_IS), .val (.ref s_IS), .val (.ref s_IS)] [(.ref s_IS)])) tq → Steps p.tables e below (s₁.setTop (entryFrame m #[(.int p1)] maxLocals)) tq := by
      refine fun tq kq => pre149 tq ?_
      show Steps p.tables e below (T147.setTop (mkF m 78 #[.val (.int p1), .val (.ref b2), .val (.ref s_IS), .val (.ref s_IS), .val (.ref s_IS)] [])) _
      refine XS.aloadN X147.here hx rfl (hb hby at_78) rfl rfl ?_
      exact kq
    obtain ⟨T151, X151, e151, st151⟩ := getS2 X147 hx hZ hown (host := "") (Or.inl (hw _ (List.mem_of_getElem? (i := 2) rfl))) Via.refl e147 f114 (g := (mkF m 79 #[.val (.int p1), .val (.ref b2), .val (.ref s_IS), .val (.ref s_IS), .val (.ref s_IS)] [(.ref s_IS)])) rfl (hb hby at_79)
    have pre152 : ∀ tq, Steps p.tables e below (T151.setTop (mkF m 82 #[.val (.int p1), .val (.ref b2), .val (.ref s_IS), .val (.ref s_IS), .val (.ref s_IS)] [(.ref s_IS), (.ref s_IS)])) tq → Steps p.tables e below (s₁.setTop (entryFrame m #[(.int p1)] maxLocals)) tq := fun tq kq => pre150 tq (st151 _ kq)
    have pre153 : ∀ tq, Steps p.tables e below (T151.setTop (mkF m 94 #[.val (.int p1), .val (.ref b2), .val (.ref s_IS), .val (.ref s_IS), .val (.ref s_IS)] [])) tq → Steps p.tables e below (s₁.setTop (entryFrame m #[(.int p1)] maxLocals)) tq := by
      refine fun tq kq => pre152 tq ?_
      show Steps p.tables e below (T151.setTop (mkF m 82 #[.val (.int p1), .val (.ref b2), .val (.ref s_IS), .val (.ref s_IS), .val (.ref s_IS)] [(.ref s_IS), (.ref s_IS)])) _
      refine Jvm.RoadKit.acmp (g := (mkF m 82 #[.val (.int p1), .val (.ref b2), .val (.ref s_IS), .val (.ref s_IS), .val (.ref s_IS)] [(.ref s_IS), (.ref s_IS)])) X151 hx rfl rfl rfl (pc0 := 82) (pc' := 94) (same := true) rfl (hb hby at_82) rfl (decide_eq_true rfl) (by decide) (by decide) ?_
      exact kq
    have pre154 : ∀ tq, Steps p.tables e below (T151.setTop (mkF m 95 #[.val (.int p1), .val (.ref b2), .val (.ref s_IS), .val (.ref s_IS), .val (.ref s_IS)] [(.ref s_IS)])) tq → Steps p.tables e below (s₁.setTop (entryFrame m #[(.int p1)] maxLocals)) tq := by
      refine fun tq kq => pre153 tq ?_
      show Steps p.tables e below (T151.setTop (mkF m 94 #[.val (.int p1), .val (.ref b2), .val (.ref s_IS), .val (.ref s_IS), .val (.ref s_IS)] [])) _
      refine XS.aloadN X151.here hx rfl (hb hby at_94) rfl rfl ?_
      exact kq
    have Z155 : n0 ≤ h112.size := (Nat.le_trans (Nat.le_trans (Nat.le_trans (Nat.le_trans (Nat.le_trans (Nat.le_trans Z0 E2.1) (Keep.of_wr W28).1) (Keep.of_wr W49).1) (Keep.of_wr W70).1) (Keep.of_wr W91).1) (Keep.of_wr W112).1)
    obtain ⟨cq155, kq155, q155a, q155b, q155c⟩ := isOf hZ e151 f115
    obtain ⟨_, _, ⟨T155, L155, k155, n155⟩, -, X155, ⟨Lc155, hQ155, l155, y155, z155⟩, st155⟩ := X151.virtualBack hx (y := (⟨"com/example/latchwork/latchwork/lock/LockMode", "intention", "()Lcom/example/latchwork/latchwork/lock/LockMode;"⟩ : MethodName)) (z := (⟨"com/example/latchwork/latchwork/lock/LockMode", "intention", "()Lcom/example/latchwork/latchwork/lock/LockMode;"⟩ : MethodName)) hown (mvT hZ (hw _ (List.mem_of_getElem? (i := 15) rfl))) (mvT hZ (hw _ (List.mem_of_getElem? (i := 16) rfl))) (notFace_of_selects (args := #[]) (mvT hZ (hw _ (List.mem_of_getElem? (i := 18) rfl)))) (mvT hZ (hw _ (List.mem_of_getElem? (i := 18) rfl))) (mvT hZ (hw _ (List.mem_of_getElem? (i := 17) rfl))) (by decide) (backOf (W := 0) (rm1 l Z a0 hw [] s_IS s_IS s_S s_IX h112 n0 Z155 f114 f118 f116) hZ (hw _ (List.mem_of_getElem? (i := 19) rfl)) (hw _ (List.mem_of_getElem? (i := 3) rfl)) (by decide) (by decide)) q155a q155c (g := (mkF m 95 #[.val (.int p1), .val (.ref b2), .val (.ref s_IS), .val (.ref s_IS), .val (.ref s_IS)] [(.ref s_IS)])) rfl (by rw [hml]; rfl) (Steps.refl _) (argsL := []) (rest := []) (lenOf pd0_0 rfl) rfl (by show 2 * 0 + _ ≤ _; exact Nat.le_of_eq rfl) (hb hby at_95) (fun _ _ => ⟨rfl, e151, (by decide : (((0 + 1) + 0) + 0) + 0 ≤ _), (by decide : (((0 + 5) + 0) + 0) + 0 ≤ _)⟩)
    dsimp only [Pt.U, Pt.locs, Pt.cells, Pt.slots] at X155 l155 y155 z155 st155 hQ155
    subst l155 y155 z155
    obtain ⟨r156, rfl, Nq155, ehq155, hq155⟩ := hQ155
    have N155 := Fr.app N143 Nq155
    have pre157 : ∀ tq, Steps p.tables e below (T155.setTop (mkF m 98 #[.val (.int p1), .val (.ref b2), .val (.ref s_IS), .val (.ref s_IS), .val (.ref s_IS)] [(.ref r156)])) tq → Steps p.tables e below (s₁.setTop (entryFrame m #[(.int p1)] maxLocals)) tq := fun tq kq => pre154 tq (st155.trans kq)
    have hr_r156 : r156 = s_IS := by rcases hq155 with ⟨q1, rfl⟩ | ⟨q1, q2, rfl⟩ | ⟨q1, q2, rfl⟩ <;> first | rfl | exact absurd q1 (by assumption) | exact absurd q2 (by assumption) | exact absurd q1.symm (by assumption) | exact absurd q2.symm (by assumption) | exact absurd rfl q1 | exact absurd rfl q2
    have hr_r156_s := hr_r156.symm; subst hr_r156_s
    have pre158 : ∀ tq, Steps p.tables e below (T155.setTop (mkF m 102 #[.val (.int p1), .val (.ref b2), .val (.ref s_IS), .val (.ref s_IS), .val (.ref s_IS)] [])) tq → Steps p.tables e below (s₁.setTop (entryFrame m #[(.int p1)] maxLocals)) tq := by
      refine fun tq kq => pre157 tq ?_
      show Steps p.tables e below (T155.setTop (mkF m 98 #[.val (.int p1), .val (.ref b2), .val (.ref s_IS), .val (.ref s_IS), .val (.ref s_IS)] [(.ref s_IS)])) _
      refine XS.aloadN X155.here hx rfl (hb hby at_98) rfl rfl ?_
      show Steps p.tables e below (T155.setTop (mkF m 99 #[.val (.int p1), .val (.ref b2), .val (.ref s_IS), .val (.ref s_IS), .val (.ref s_IS)] [(.ref s_IS), (.ref s_IS)])) _
      refine Jvm.RoadKit.acmp (g := (mkF m 99 #[.val (.int p1), .val (.ref b2), .val (.ref s_IS), .val (.ref s_IS), .val (.ref s_IS)] [(.ref s_IS), (.ref s_IS)])) X155 hx rfl rfl rfl (pc0 := 99) (pc' := 102) (same := true) rfl (hb hby at_99) rfl (decide_eq_true rfl) (by decide) (by decide) ?_
      exact kq
    obtain ⟨fs, hr, hrun, hended, hW, hsame⟩ := X155.leave (v := some (.int (1 : Int32))) (fun h => by rw [Bd.returns] at h; cases h)
    refine ⟨_, _, pre158 _ ?_, hrun, hended, _, _, rfl, ?_, ⟨_, rfl⟩, hW, hsame.mono (by decide) (by decide)⟩
    · skip
      show Steps p.tables e below (T155.setTop (mkF m 102 #[.val (.int p1), .val (.ref b2), .val (.ref s_IS), .val (.ref s_IS), .val (.ref s_IS)] [])) _
      refine XS.iconst X155.here hx rfl (hb hby at_102) ?_
      show Steps p.tables e below (T155.setTop (mkF m 103 #[.val (.int p1), .val (.ref b2), .val (.ref s_IS), .val (.ref s_IS), .val (.ref s_IS)] [(.int (1 : Int32))])) _
      refine XS.goto X155.here hx rfl (pc0 := 103) (pc' := 107) rfl (hb hby at_103) (by decide) (by decide) ?_
      show Steps p.tables e below (T155.setTop (mkF m 107 #[.val (.int p1), .val (.ref b2), .val (.ref s_IS), .val (.ref s_IS), .val (.ref s_IS)] [(.int (1 : Int32))])) _
      exact retN X155 hx (t := .boolean) Bd.returns (by simp) (hb hby at_107) hr
    · show Q0 Z p1 s_IS s_IX s_S s_SIX s_X h0 n0 _ T155.heap _
      rw [ehq155]
      exact ⟨rfl, N155⟩
  · skip
    subst hk
    have Vc159 := f129
    obtain ⟨cl159, Ar159, Aq159, As159, An159, Ah159, Ag159⟩ := Vc159
    have hin159 : ¬ ((1 : Int32) < 0 ∨ cl159.slots.size ≤ ((1 : Int32)).toNatClampNeg) := inb_of As159 ⟨by decide, by decide⟩
    have pre160 : ∀ tq, Steps p.tables e below (T112.setTop (mkF m 43 #[.val (.int p1), .val (.ref b2), .unset, .unset, .unset] [(.ref s_IX)])) tq → Steps p.tables e below (s₁.setTop (entryFrame m #[(.int p1)] maxLocals)) tq := fun tq kq => pre131 tq (X112.aaload hx (j := (1 : Int32)) (v := (.ref s_IX)) (by rw [e112]; exact Ar159.1) (State.isArrayOf_alike hZ.alike Ar159.2.1) rfl Ar159.2.2 hin159 (Has.at Ah159 hin159 rfl) (g := (mkF m 42 #[.val (.int p1), .val (.ref b2), .unset, .unset, .unset] [(.int (1 : Int32)), (.ref b2)])) rfl rfl (hb hby at_42) _ kq)
    have pre161 : ∀ tq, Steps p.tables e below (T112.setTop (mkF m 45 #[.val (.int p1), .val (.ref b2), .val (.ref s_IX), .unset, .unset] [(.ref s_IX)])) tq → Steps p.tables e below (s₁.setTop (entryFrame m #[(.int p1)] maxLocals)) tq := by
      refine fun tq kq => pre160 tq ?_
      show Steps p.tables e below (T112.setTop (mkF m 43 #[.val (.int p1), .val (.ref b2), .unset, .unset, .unset] [(.ref s_IX)])) _
      refine XS.astoreN X112.here hx rfl (hb hby at_43) rfl rfl (l' := #[.val (.int p1), .val (.ref b2), .val (.ref s_IX), .unset, .unset]) rfl ?_
      show Steps p.tables e below (T112.setTop (mkF m 44 #[.val (.int p1), .val (.ref b2), .val (.ref s_IX), .unset, .unset] [])) _
      refine XS.aloadN X112.here hx rfl (hb hby at_44) rfl rfl ?_
      exact kq
    have Z162 : n0 ≤ h112.size := (Nat.le_trans (Nat.le_trans (Nat.le_trans (Nat.le_trans (Nat.le_trans (Nat.le_trans Z0 E2.1) (Keep.of_wr W28).1) (Keep.of_wr W49).1) (Keep.of_wr W70).1) (Keep.of_wr W91).1) (Keep.of_wr W112).1)
    obtain ⟨cq162, kq162, q162a, q162b, q162c⟩ := isOf hZ e112 f117
    obtain ⟨_, _, ⟨T162, L162, k162, n162⟩, -, X162, ⟨Lc162, hQ162, l162, y162, z162⟩, st162⟩ := X112.virtualBack hx (y := (⟨"com/example/latchwork/latchwork/lock/LockMode", "intention", "()Lcom/example/latchwork/latchwork/lock/LockMode;"⟩ : MethodName)) (z := (⟨"com/example/latchwork/latchwork/lock/LockMode", "intention", "()Lcom/example/latchwork/latchwork/lock/LockMode;"⟩ : MethodName)) hown (mvT hZ (hw _ (List.mem_of_getElem? (i := 15) rfl))) (mvT hZ (hw _ (List.mem_of_getElem? (i := 16) rfl))) (notFace_of_selects (args := #[]) (mvT hZ (hw _ (List.mem_of_getElem? (i := 18) rfl)))) (mvT hZ (hw _ (List.mem_of_getElem? (i := 18) rfl))) (mvT hZ (hw _ (List.mem_of_getElem? (i := 17) rfl))) (by decide) (backOf (W := 0) (rm1 l Z a0 hw [] s_IX s_IS s_S s_IX h112 n0 Z162 f114 f118 f116) hZ (hw _ (List.mem_of_getElem? (i := 19) rfl)) (hw _ (List.mem_of_getElem? (i := 3) rfl)) (by decide) (by decide)) q162a q162c (g := (mkF m 45 #[.val (.int p1), .val (.ref b2), .val (.ref s_IX), .unset, .unset] [(.ref s_IX)])) rfl (by rw [hml]; rfl) (Steps.refl _) (argsL := []) (rest := []) (lenOf pd0_0 rfl) rfl (by show 2 * 0 + _ ≤ _; exact Nat.le_of_eq rfl) (hb hby at_45) (fun _ _ => ⟨rfl, e112, (by decide : (0 + 1) + 0 ≤ _), (by decide : (0 + 5) + 0 ≤ _)⟩)
    dsimp only [Pt.U, Pt.locs, Pt.cells, Pt.slots] at X162 l162 y162 z162 st162 hQ162
    subst l162 y162 z162
    obtain ⟨r163, rfl, Nq162, ehq162, hq162⟩ := hQ162
    have N162 := Fr.app N112 Nq162
    have pre164 : ∀ tq, Steps p.tables e below (T162.setTop (mkF m 48 #[.val (.int p1), .val (.ref b2), .val (.ref s_IX), .unset, .unset] [(.ref r163)])) tq → Steps p.tables e below (s₁.setTop (entryFrame m #[(.int p1)] maxLocals)) tq := fun tq kq => pre161 tq (st162.trans kq)
    have hr_r163 : r163 = s_IX := by rcases hq162 with ⟨q1, rfl⟩ | ⟨q1, q2, rfl⟩ | ⟨q1, q2, rfl⟩ <;> first | rfl | exact absurd q1 (by assumption) | exact absurd q2 (by assumption) | exact absurd q1.symm (by assumption) | exact absurd q2.symm (by assumption) | exact absurd rfl q1 | exact absurd rfl q2
    have hr_r163_s := hr_r163.symm; subst hr_r163_s
    have pre165 : ∀ tq, Steps p.tables e below (T162.setTop (mkF m 49 #[.val (.int p1), .val (.ref b2), .val (.ref s_IX), .val (.ref s_IX), .unset] [])) tq → Steps p.tables e below (s₁.setTop (entryFrame m #[(.int p1)] maxLocals)) tq := by
      refine fun tq kq => pre164 tq ?_
      show Steps p.tables e below (T162.setTop (mkF m 48 #[.val (.int p1), .val (.ref b2), .val (.ref s_IX), .unset, .unset] [(.ref s_IX)])) _
      refine XS.astoreN X162.here hx rfl (hb hby at_48) rfl rfl (l' := #[.val (.int p1), .val (.ref b2), .val (.ref s_IX), .val (.ref s_IX), .unset]) rfl ?_
      exact kq
    obtain ⟨T166, X166, e166, st166⟩ := getS2 X162 hx hZ hown (host := "") (Or.inl (hw _ (List.mem_of_getElem? (i := 8) rfl))) Via.refl ehq162 f118 (g := (mkF m 49 #[.val (.int p1), .val (.ref b2), .val (.ref s_IX), .val (.ref s_IX), .unset] [])) rfl (hb hby at_49)
    have pre167 : ∀ tq, Steps p.tables e below (T166.setTop (mkF m 52 #[.val (.int p1), .val (.ref b2), .val (.ref s_IX), .val (.ref s_IX), .unset] [(.ref s_S)])) tq → Steps p.tables e below (s₁.setTop (entryFrame m #[(.int p1)] maxLocals)) tq := fun tq kq => pre165 tq (st166 _ kq)
    have pre168 : ∀ tq, Steps p.tables e below (T166.setTop (mkF m 53 #[.val (.int p1), .val (.ref b2), .val (.ref s_IX), .val (.ref s_IX), .unset] [(.ref s_IX), (.ref s_S)])) tq → Steps p.tables e below (s₁.setTop (entryFrame m #[(.int p1)] maxLocals)) tq := by
      refine fun tq kq => pre167 tq ?_
      show Steps p.tables e below (T166.setTop (mkF m 52 #[.val (.int p1), .val (.ref b2), .val (.ref s_IX), .val (.ref s_IX), .unset] [(.ref s_S)])) _
      refine XS.aloadN X166.here hx rfl (hb hby at_52) rfl rfl ?_
      exact kq
    have Z169 : n0 ≤ h112.size := (Nat.le_trans (Nat.le_trans (Nat.le_trans (Nat.le_trans (Nat.le_trans (Nat.le_trans Z0 E2.1) (Keep.of_wr W28).1) (Keep.of_wr W49).1) (Keep.of_wr W70).1) (Keep.of_wr W91).1) (Keep.of_wr W112).1)
    obtain ⟨cq169, kq169, q169a, q169b, q169c⟩ := isOf hZ e166 f119
    obtain ⟨_, _, ⟨T169, L169, k169, n169⟩, -, X169, ⟨Lc169, hQ169, l169, y169, z169⟩, st169⟩ := X166.virtualBack hx (y := (⟨"com/example/latchwork/latchwork/lock/LockMode", "covers", "(Lcom/example/latchwork/latchwork/lock/LockMode;)Z"⟩ : MethodName)) (z := (⟨"com/example/latchwork/latchwork/lock/LockMode", "covers", "(Lcom/example/latchwork/latchwork/lock/LockMode;)Z"⟩ : MethodName)) hown (mvT hZ (hw _ (List.mem_of_getElem? (i := 21) rfl))) (mvT hZ (hw _ (List.mem_of_getElem? (i := 22) rfl))) (notFace_of_selects (args := #[]) (mvT hZ (hw _ (List.mem_of_getElem? (i := 24) rfl)))) (mvT hZ (hw _ (List.mem_of_getElem? (i := 24) rfl))) (mvT hZ (hw _ (List.mem_of_getElem? (i := 23) rfl))) (by decide) (backOf (W := 0) (rm2 l Z a0 hw [] s_S s_IX s_IS h112 n0 Z169 f114 f119 f124) hZ (hw _ (List.mem_of_getElem? (i := 25) rfl)) (hw _ (List.mem_of_getElem? (i := 3) rfl)) (by decide) (by decide)) q169a q169c (g := (mkF m 53 #[.val (.int p1), .val (.ref b2), .val (.ref s_IX), .val (.ref s_IX), .unset] [(.ref s_IX), (.ref s_S)])) rfl (by rw [hml]; rfl) (Steps.refl _) (argsL := [(.ref s_IX)]) (rest := []) (lenOf pd0_1 rfl) rfl (by show 2 * 0 + _ ≤ _; exact Nat.le_of_eq rfl) (hb hby at_53) (fun _ _ => ⟨rfl, e166, (by decide : ((0 + 1) + 0) + 0 ≤ _), (by decide : ((0 + 5) + 0) + 0 ≤ _)⟩)
    dsimp only [Pt.U, Pt.locs, Pt.cells, Pt.slots] at X169 l169 y169 z169 st169 hQ169
    subst l169 y169 z169
    obtain ⟨r170, rfl, Nq169, ehq169, hq169⟩ := hQ169
    have N169 := Fr.app N162 Nq169
    have pre171 : ∀ tq, Steps p.tables e below (T169.setTop (mkF m 56 #[.val (.int p1), .val (.ref b2), .val (.ref s_IX), .val (.ref s_IX), .unset] [(.int r170)])) tq → Steps p.tables e below (s₁.setTop (entryFrame m #[(.int p1)] maxLocals)) tq := fun tq kq => pre168 tq (st169.trans kq)
    have hr_r170 : r170 = (0 : Int32) := by rcases hq169 with ⟨q1, rfl⟩ | ⟨q1, q2, rfl⟩ | ⟨q1, q2, rfl⟩ <;> first | rfl | exact absurd q1 (by assumption) | exact absurd q2 (by assumption) | exact absurd q1.symm (by assumption) | exact absurd q2.symm (by assumption) | exact absurd rfl q1 | exact absurd rfl q2
    subst hr_r170
    have pre172 : ∀ tq, Steps p.tables e below (T169.setTop (mkF m 65 #[.val (.int p1), .val (.ref b2), .val (.ref s_IX), .val (.ref s_IX), .unset] [])) tq → Steps p.tables e below (s₁.setTop (entryFrame m #[(.int p1)] maxLocals)) tq := by
      refine fun tq kq => pre171 tq ?_
      show Steps p.tables e below (T169.setTop (mkF m 56 #[.val (.int p1), .val (.ref b2), .val (.ref s_IX), .val (.ref s_IX), .unset] [(.int (0 : Int32))])) _
      refine XS.ifYes X169.here hx rfl (pc0 := 56) (pc' := 65) rfl (hb hby at_56) rfl ((if0 _ _).trans (teq (by decide : (0 : Int32) = (0 : Int32))).1) (by decide) (by decide) ?_
      exact kq
    obtain ⟨T173, X173, e173, st173⟩ := getS2 X169 hx hZ hown (host := "") (Or.inl (hw _ (List.mem_of_getElem? (i := 6) rfl))) Via.refl ehq169 f116 (g := (mkF m 65 #[.val (.int p1), .val (.ref b2), .val (.ref s_IX), .val (.ref s_IX), .unset] [])) rfl (hb hby at_65)
    have pre174 : ∀ tq, Steps p.tables e below (T173.setTop (mkF m 68 #[.val (.int p1), .val (.ref b2), .val (.ref s_IX), .val (.ref s_IX), .unset] [(.ref s_IX)])) tq → Steps p.tables e below (s₁.setTop (entryFrame m #[(.int p1)] maxLocals)) tq := fun tq kq => pre172 tq (st173 _ kq)
    have pre175 : ∀ tq, Steps p.tables e below (T173.setTop (mkF m 78 #[.val (.int p1), .val (.ref b2), .val (.ref s_IX), .val (.ref s_IX), .val (.ref s_IX)] [])) tq → Steps p.tables e below (s₁.setTop (entryFrame m #[(.int p1)] maxLocals)) tq := by
      refine fun tq kq => pre174 tq ?_
      show Steps p.tables e below (T173.setTop (mkF m 68 #[.val (.int p1), .val (.ref b2), .val (.ref s_IX), .val (.ref s_IX), .unset] [(.ref s_IX)])) _
      refine XS.astore X173.here hx rfl (hb hby at_68) rfl rfl (l' := #[.val (.int p1), .val (.ref b2), .val (.ref s_IX), .val (.ref s_IX), .val (.ref s_IX)]) rfl ?_
      show Steps p.tables e below (T173.setTop (mkF m 70 #[.val (.int p1), .val (.ref b2), .val (.ref s_IX), .val (.ref s_IX), .val (.ref s_IX)] [])) _
      refine XS.aloadN X173.here hx rfl (hb hby at_70) rfl rfl ?_
      show Steps p.tables e below (T173.setTop (mkF m 71 #[.val (.int p1), .val (.ref b2), .val (.ref s_IX), .val (.ref s_IX), .val (.ref s_IX)] [(.ref s_IX)])) _
      refine XS.aload X173.here hx rfl (hb hby at_71) rfl rfl ?_
      show Steps p.tables e below (T173.setTop (mkF m 73 #[.val (.int p1), .val (.ref b2), .val (.ref s_IX), .val (.ref s_IX), .val (.ref s_IX)] [(.ref s_IX), (.ref s_IX)])) _
      refine Jvm.RoadKit.acmp (g := (mkF m 73 #[.val (.int p1), .val (.ref b2), .val (.ref s_IX), .val (.ref s_IX), .val (.ref s_IX)] [(.ref s_IX), (.ref s_IX)])) X173 hx rfl rfl rfl (pc0 := 73) (pc' := 78) (same := true) rfl (hb hby at_73) rfl (decide_eq_true rfl) (by decide) (by decide) ?_
      exact kq
    have pre176 : ∀ tq, Steps p.tables e below (T173.setTop (mkF m 79 #[.val (.int p1), .val (.ref b2), .val (.ref s_IX), .val (.ref s_IX), .val (.ref s_IX)] [(.ref s_IX)])) tq → Steps p.tables e below (s₁.setTop (entryFrame m #[(.int p1)] maxLocals)) tq := by
      refine fun tq kq => pre175 tq ?_
      show Steps p.tables e below (T173.setTop (mkF m 78 #[.val (.int p1), .val (.ref b2), .val (.ref s_IX), .val (.ref s_IX), .val (.ref s_IX)] [])) _
      refine XS.aloadN X173.here hx rfl (hb hby at_78) rfl rfl ?_
      exact kq
    obtain ⟨T177, X177, e177, st177⟩ := getS2 X173 hx hZ hown (host := "") (Or.inl (hw _ (List.mem_of_getElem? (i := 2) rfl))) Via.refl e173 f114 (g := (mkF m 79 #[.val (.int p1), .val (.ref b2), .val (.ref s_IX), .val (.ref s_IX), .val (.ref s_IX)] [(.ref s_IX)])) rfl (hb hby at_79)
    have pre178 : ∀ tq, Steps p.tables e below (T177.setTop (mkF m 82 #[.val (.int p1), .val (.ref b2), .val (.ref s_IX), .val (.ref s_IX), .val (.ref s_IX)] [(.ref s_IS), (.ref s_IX)])) tq → Steps p.tables e below (s₁.setTop (entryFrame m #[(.int p1)] maxLocals)) tq := fun tq kq => pre176 tq (st177 _ kq)
    by_cases hc82 : s_IX = s_IS
    · skip
      have pre179 : ∀ tq, Steps p.tables e below (T177.setTop (mkF m 94 #[.val (.int p1), .val (.ref b2), .val (.ref s_IX), .val (.ref s_IX), .val (.ref s_IX)] [])) tq → Steps p.tables e below (s₁.setTop (entryFrame m #[(.int p1)] maxLocals)) tq := by
        refine fun tq kq => pre178 tq ?_
        show Steps p.tables e below (T177.setTop (mkF m 82 #[.val (.int p1), .val (.ref b2), .val (.ref s_IX), .val (.ref s_IX), .val (.ref s_IX)] [(.ref s_IS), (.ref s_IX)])) _
        refine Jvm.RoadKit.acmp (g := (mkF m 82 #[.val (.int p1), .val (.ref b2), .val (.ref s_IX), .val (.ref s_IX), .val (.ref s_IX)] [(.ref s_IS), (.ref s_IX)])) X177 hx rfl rfl rfl (pc0 := 82) (pc' := 94) (same := true) rfl (hb hby at_82) rfl (decide_eq_true (congrArg Value.ref hc82)) (by decide) (by decide) ?_
        exact kq
      have pre180 : ∀ tq, Steps p.tables e below (T177.setTop (mkF m 95 #[.val (.int p1), .val (.ref b2), .val (.ref s_IX), .val (.ref s_IX), .val (.ref s_IX)] [(.ref s_IX)])) tq → Steps p.tables e below (s₁.setTop (entryFrame m #[(.int p1)] maxLocals)) tq := by
        refine fun tq kq => pre179 tq ?_
        show Steps p.tables e below (T177.setTop (mkF m 94 #[.val (.int p1), .val (.ref b2), .val (.ref s_IX), .val (.ref s_IX), .val (.ref s_IX)] [])) _
        refine XS.aloadN X177.here hx rfl (hb hby at_94) rfl rfl ?_
        exact kq
      have Z181 : n0 ≤ h112.size := (Nat.le_trans (Nat.le_trans (Nat.le_trans (Nat.le_trans (Nat.le_trans (Nat.le_trans Z0 E2.1) (Keep.of_wr W28).1) (Keep.of_wr W49).1) (Keep.of_wr W70).1) (Keep.of_wr W91).1) (Keep.of_wr W112).1)
      obtain ⟨cq181, kq181, q181a, q181b, q181c⟩ := isOf hZ e177 f117
      obtain ⟨_, _, ⟨T181, L181, k181, n181⟩, -, X181, ⟨Lc181, hQ181, l181, y181, z181⟩, st181⟩ := X177.virtualBack hx (y := (⟨"com/example/latchwork/latchwork/lock/LockMode", "intention", "()Lcom/example/latchwork/latchwork/lock/LockMode;"⟩ : MethodName)) (z := (⟨"com/example/latchwork/latchwork/lock/LockMode", "intention", "()Lcom/example/latchwork/latchwork/lock/LockMode;"⟩ : MethodName)) hown (mvT hZ (hw _ (List.mem_of_getElem? (i := 15) rfl))) (mvT hZ (hw _ (List.mem_of_getElem? (i := 16) rfl))) (notFace_of_selects (args := #[]) (mvT hZ (hw _ (List.mem_of_getElem? (i := 18) rfl)))) (mvT hZ (hw _ (List.mem_of_getElem? (i := 18) rfl))) (mvT hZ (hw _ (List.mem_of_getElem? (i := 17) rfl))) (by decide) (backOf (W := 0) (rm1 l Z a0 hw [] s_IX s_IS s_S s_IX h112 n0 Z181 f114 f118 f116) hZ (hw _ (List.mem_of_getElem? (i := 19) rfl)) (hw _ (List.mem_of_getElem? (i := 3) rfl)) (by decide) (by decide)) q181a q181c (g := (mkF m 95 #[.val (.int p1), .val (.ref b2), .val (.ref s_IX), .val (.ref s_IX), .val (.ref s_IX)] [(.ref s_IX)])) rfl (by rw [hml]; rfl) (Steps.refl _) (argsL := []) (rest := []) (lenOf pd0_0 rfl) rfl (by show 2 * 0 + _ ≤ _; exact Nat.le_of_eq rfl) (hb hby at_95) (fun _ _ => ⟨rfl, e177, (by decide : (((0 + 1) + 0) + 0) + 0 ≤ _), (by decide : (((0 + 5) + 0) + 0) + 0 ≤ _)⟩)
      dsimp only [Pt.U, Pt.locs, Pt.cells, Pt.slots] at X181 l181 y181 z181 st181 hQ181
      subst l181 y181 z181
      obtain ⟨r182, rfl, Nq181, ehq181, hq181⟩ := hQ181
      have N181 := Fr.app N169 Nq181
      have pre183 : ∀ tq, Steps p.tables e below (T181.setTop (mkF m 98 #[.val (.int p1), .val (.ref b2), .val (.ref s_IX), .val (.ref s_IX), .val (.ref s_IX)] [(.ref r182)])) tq → Steps p.tables e below (s₁.setTop (entryFrame m #[(.int p1)] maxLocals)) tq := fun tq kq => pre180 tq (st181.trans kq)
      have hr_r182 : r182 = s_IX := by rcases hq181 with ⟨q1, rfl⟩ | ⟨q1, q2, rfl⟩ | ⟨q1, q2, rfl⟩ <;> first | rfl | exact absurd q1 (by assumption) | exact absurd q2 (by assumption) | exact absurd q1.symm (by assumption) | exact absurd q2.symm (by assumption) | exact absurd rfl q1 | exact absurd rfl q2
      have hr_r182_s := hr_r182.symm; subst hr_r182_s
      have pre184 : ∀ tq, Steps p.tables e below (T181.setTop (mkF m 102 #[.val (.int p1), .val (.ref b2), .val (.ref s_IX), .val (.ref s_IX), .val (.ref s_IX)] [])) tq → Steps p.tables e below (s₁.setTop (entryFrame m #[(.int p1)] maxLocals)) tq := by
        refine fun tq kq => pre183 tq ?_
        show Steps p.tables e below (T181.setTop (mkF m 98 #[.val (.int p1), .val (.ref b2), .val (.ref s_IX), .val (.ref s_IX), .val (.ref s_IX)] [(.ref s_IX)])) _
        refine XS.aloadN X181.here hx rfl (hb hby at_98) rfl rfl ?_
        show Steps p.tables e below (T181.setTop (mkF m 99 #[.val (.int p1), .val (.ref b2), .val (.ref s_IX), .val (.ref s_IX), .val (.ref s_IX)] [(.ref s_IX), (.ref s_IX)])) _
        refine Jvm.RoadKit.acmp (g := (mkF m 99 #[.val (.int p1), .val (.ref b2), .val (.ref s_IX), .val (.ref s_IX), .val (.ref s_IX)] [(.ref s_IX), (.ref s_IX)])) X181 hx rfl rfl rfl (pc0 := 99) (pc' := 102) (same := true) rfl (hb hby at_99) rfl (decide_eq_true rfl) (by decide) (by decide) ?_
        exact kq
      obtain ⟨fs, hr, hrun, hended, hW, hsame⟩ := X181.leave (v := some (.int (1 : Int32))) (fun h => by rw [Bd.returns] at h; cases h)
      refine ⟨_, _, pre184 _ ?_, hrun, hended, _, _, rfl, ?_, ⟨_, rfl⟩, hW, hsame.mono (by decide) (by decide)⟩
      · skip
        show Steps p.tables e below (T181.setTop (mkF m 102 #[.val (.int p1), .val (.ref b2), .val (.ref s_IX), .val (.ref s_IX), .val (.ref s_IX)] [])) _
        refine XS.iconst X181.here hx rfl (hb hby at_102) ?_
        show Steps p.tables e below (T181.setTop (mkF m 103 #[.val (.int p1), .val (.ref b2), .val (.ref s_IX), .val (.ref s_IX), .val (.ref s_IX)] [(.int (1 : Int32))])) _
        refine XS.goto X181.here hx rfl (pc0 := 103) (pc' := 107) rfl (hb hby at_103) (by decide) (by decide) ?_
        show Steps p.tables e below (T181.setTop (mkF m 107 #[.val (.int p1), .val (.ref b2), .val (.ref s_IX), .val (.ref s_IX), .val (.ref s_IX)] [(.int (1 : Int32))])) _
        exact retN X181 hx (t := .boolean) Bd.returns (by simp) (hb hby at_107) hr
      · show Q0 Z p1 s_IS s_IX s_S s_SIX s_X h0 n0 _ T181.heap _
        rw [ehq181]
        exact ⟨rfl, N181⟩
    · skip
      have pre185 : ∀ tq, Steps p.tables e below (T177.setTop (mkF m 85 #[.val (.int p1), .val (.ref b2), .val (.ref s_IX), .val (.ref s_IX), .val (.ref s_IX)] [])) tq → Steps p.tables e below (s₁.setTop (entryFrame m #[(.int p1)] maxLocals)) tq := by
        refine fun tq kq => pre178 tq ?_
        show Steps p.tables e below (T177.setTop (mkF m 82 #[.val (.int p1), .val (.ref b2), .val (.ref s_IX), .val (.ref s_IX), .val (.ref s_IX)] [(.ref s_IS), (.ref s_IX)])) _
        refine Jvm.RoadKit.acmp (g := (mkF m 82 #[.val (.int p1), .val (.ref b2), .val (.ref s_IX), .val (.ref s_IX), .val (.ref s_IX)] [(.ref s_IS), (.ref s_IX)])) X177 hx rfl rfl rfl (pc0 := 82) (pc' := 85) (same := false) rfl (hb hby at_82) rfl (decide_eq_false fun q => hc82 (Value.ref.inj q)) (by decide) (by decide) ?_
        exact kq
      have pre186 : ∀ tq, Steps p.tables e below (T177.setTop (mkF m 86 #[.val (.int p1), .val (.ref b2), .val (.ref s_IX), .val (.ref s_IX), .val (.ref s_IX)] [(.ref s_IX)])) tq → Steps p.tables e below (s₁.setTop (entryFrame m #[(.int p1)] maxLocals)) tq := by
        refine fun tq kq => pre185 tq ?_
        show Steps p.tables e below (T177.setTop (mkF m 85 #[.val (.int p1), .val (.ref b2), .val (.ref s_IX), .val (.ref s_IX), .val (.ref s_IX)] [])) _
        refine XS.aloadN X177.here hx rfl (hb hby at_85) rfl rfl ?_
        exact kq
      obtain ⟨T187, X187, e187, st187⟩ := getS2 X177 hx hZ hown (host := "") (Or.inl (hw _ (List.mem_of_getElem? (i := 6) rfl))) Via.refl e177 f116 (g := (mkF m 86 #[.val (.int p1), .val (.ref b2), .val (.ref s_IX), .val (.ref s_IX), .val (.ref s_IX)] [(.ref s_IX)])) rfl (hb hby at_86)
      have pre188 : ∀ tq, Steps p.tables e below (T187.setTop (mkF m 89 #[.val (.int p1), .val (.ref b2), .val (.ref s_IX), .val (.ref s_IX), .val (.ref s_IX)] [(.ref s_IX), (.ref s_IX)])) tq → Steps p.tables e below (s₁.setTop (entryFrame m #[(.int p1)] maxLocals)) tq := fun tq kq => pre186 tq (st187 _ kq)
      have pre189 : ∀ tq, Steps p.tables e below (T187.setTop (mkF m 94 #[.val (.int p1), .val (.ref b2), .val (.ref s_IX), .val (.ref s_IX), .val (.ref s_IX)] [])) tq → Steps p.tables e below (s₁.setTop (entryFrame m #[(.int p1)] maxLocals)) tq := by
        refine fun tq kq => pre188 tq ?_
        show Steps p.tables e below (T187.setTop (mkF m 89 #[.val (.int p1), .val (.ref b2), .val (.ref s_IX), .val (.ref s_IX), .val (.ref s_IX)] [(.ref s_IX), (.ref s_IX)])) _
        refine Jvm.RoadKit.acmp (g := (mkF m 89 #[.val (.int p1), .val (.ref b2), .val (.ref s_IX), .val (.ref s_IX), .val (.ref s_IX)] [(.ref s_IX), (.ref s_IX)])) X187 hx rfl rfl rfl (pc0 := 89) (pc' := 94) (same := true) rfl (hb hby at_89) rfl (decide_eq_true rfl) (by decide) (by decide) ?_
        exact kq
      have pre190 : ∀ tq, Steps p.tables e below (T187.setTop (mkF m 95 #[.val (.int p1), .val (.ref b2), .val (.ref s_IX), .val (.ref s_IX), .val (.ref s_IX)] [(.ref s_IX)])) tq → Steps p.tables e below (s₁.setTop (entryFrame m #[(.int p1)] maxLocals)) tq := by
        refine fun tq kq => pre189 tq ?_
        show Steps p.tables e below (T187.setTop (mkF m 94 #[.val (.int p1), .val (.ref b2), .val (.ref s_IX), .val (.ref s_IX), .val (.ref s_IX)] [])) _
        refine XS.aloadN X187.here hx rfl (hb hby at_94) rfl rfl ?_
        exact kq
      have Z191 : n0 ≤ h112.size := (Nat.le_trans (Nat.le_trans (Nat.le_trans (Nat.le_trans (Nat.le_trans (Nat.le_trans Z0 E2.1) (Keep.of_wr W28).1) (Keep.of_wr W49).1) (Keep.of_wr W70).1) (Keep.of_wr W91).1) (Keep.of_wr W112).1)
      obtain ⟨cq191, kq191, q191a, q191b, q191c⟩ := isOf hZ e187 f117
      obtain ⟨_, _, ⟨T191, L191, k191, n191⟩, -, X191, ⟨Lc191, hQ191, l191, y191, z191⟩, st191⟩ := X187.virtualBack hx (y := (⟨"com/example/latchwork/latchwork/lock/LockMode", "intention", "()Lcom/example/latchwork/latchwork/lock/LockMode;"⟩ : MethodName)) (z := (⟨"com/example/latchwork/latchwork/lock/LockMode", "intention", "()Lcom/example/latchwork/latchwork/lock/LockMode;"⟩ : MethodName)) hown (mvT hZ (hw _ (List.mem_of_getElem? (i := 15) rfl))) (mvT hZ (hw _ (List.mem_of_getElem? (i := 16) rfl))) (notFace_of_selects (args := #[]) (mvT hZ (hw _ (List.mem_of_getElem? (i := 18) rfl)))) (mvT hZ (hw _ (List.mem_of_getElem? (i := 18) rfl))) (mvT hZ (hw _ (List.mem_of_getElem? (i := 17) rfl))) (by decide) (backOf (W := 0) (rm1 l Z a0 hw [] s_IX s_IS s_S s_IX h112 n0 Z191 f114 f118 f116) hZ (hw _ (List.mem_of_getElem? (i := 19) rfl)) (hw _ (List.mem_of_getElem? (i := 3) rfl)) (by decide) (by decide)) q191a q191c (g := (mkF m 95 #[.val (.int p1), .val (.ref b2), .val (.ref s_IX), .val (.ref s_IX), .val (.ref s_IX)] [(.ref s_IX)])) rfl (by rw [hml]; rfl) (Steps.refl _) (argsL := []) (rest := []) (lenOf pd0_0 rfl) rfl (by show 2 * 0 + _ ≤ _; exact Nat.le_of_eq rfl) (hb hby at_95) (fun _ _ => ⟨rfl, e187, (by decide : (((0 + 1) + 0) + 0) + 0 ≤ _), (by decide : (((0 + 5) + 0) + 0) + 0 ≤ _)⟩)
      dsimp only [Pt.U, Pt.locs, Pt.cells, Pt.slots] at X191 l191 y191 z191 st191 hQ191
      subst l191 y191 z191
      obtain ⟨r192, rfl, Nq191, ehq191, hq191⟩ := hQ191
      have N191 := Fr.app N169 Nq191
      have pre193 : ∀ tq, Steps p.tables e below (T191.setTop (mkF m 98 #[.val (.int p1), .val (.ref b2), .val (.ref s_IX), .val (.ref s_IX), .val (.ref s_IX)] [(.ref r192)])) tq → Steps p.tables e below (s₁.setTop (entryFrame m #[(.int p1)] maxLocals)) tq := fun tq kq => pre190 tq (st191.trans kq)
      have hr_r192 : r192 = s_IX := by rcases hq191 with ⟨q1, rfl⟩ | ⟨q1, q2, rfl⟩ | ⟨q1, q2, rfl⟩ <;> first | rfl | exact absurd q1 (by assumption) | exact absurd q2 (by assumption) | exact absurd q1.symm (by assumption) | exact absurd q2.symm (by assumption) | exact absurd rfl q1 | exact absurd rfl q2
      have hr_r192_s := hr_r192.symm; subst hr_r192_s
      have pre194 : ∀ tq, Steps p.tables e below (T191.setTop (mkF m 102 #[.val (.int p1), .val (.ref b2), .val (.ref s_IX), .val (.ref s_IX), .val (.ref s_IX)] [])) tq → Steps p.tables e below (s₁.setTop (entryFrame m #[(.int p1)] maxLocals)) tq := by
        refine fun tq kq => pre193 tq ?_
        show Steps p.tables e below (T191.setTop (mkF m 98 #[.val (.int p1), .val (.ref b2), .val (.ref s_IX), .val (.ref s_IX), .val (.ref s_IX)] [(.ref s_IX)])) _
        refine XS.aloadN X191.here hx rfl (hb hby at_98) rfl rfl ?_
        show Steps p.tables e below (T191.setTop (mkF m 99 #[.val (.int p1), .val (.ref b2), .val (.ref s_IX), .val (.ref s_IX), .val (.ref s_IX)] [(.ref s_IX), (.ref s_IX)])) _
        refine Jvm.RoadKit.acmp (g := (mkF m 99 #[.val (.int p1), .val (.ref b2), .val (.ref s_IX), .val (.ref s_IX), .val (.ref s_IX)] [(.ref s_IX), (.ref s_IX)])) X191 hx rfl rfl rfl (pc0 := 99) (pc' := 102) (same := true) rfl (hb hby at_99) rfl (decide_eq_true rfl) (by decide) (by decide) ?_
        exact kq
      obtain ⟨fs, hr, hrun, hended, hW, hsame⟩ := X191.leave (v := some (.int (1 : Int32))) (fun h => by rw [Bd.returns] at h; cases h)
      refine ⟨_, _, pre194 _ ?_, hrun, hended, _, _, rfl, ?_, ⟨_, rfl⟩, hW, hsame.mono (by decide) (by decide)⟩
      · skip
        show Steps p.tables e below (T191.setTop (mkF m 102 #[.val (.int p1), .val (.ref b2), .val (.ref s_IX), .val (.ref s_IX), .val (.ref s_IX)] [])) _
        refine XS.iconst X191.here hx rfl (hb hby at_102) ?_
        show Steps p.tables e below (T191.setTop (mkF m 103 #[.val (.int p1), .val (.ref b2), .val (.ref s_IX), .val (.ref s_IX), .val (.ref s_IX)] [(.int (1 : Int32))])) _
        refine XS.goto X191.here hx rfl (pc0 := 103) (pc' := 107) rfl (hb hby at_103) (by decide) (by decide) ?_
        show Steps p.tables e below (T191.setTop (mkF m 107 #[.val (.int p1), .val (.ref b2), .val (.ref s_IX), .val (.ref s_IX), .val (.ref s_IX)] [(.int (1 : Int32))])) _
        exact retN X191 hx (t := .boolean) Bd.returns (by simp) (hb hby at_107) hr
      · show Q0 Z p1 s_IS s_IX s_S s_SIX s_X h0 n0 _ T191.heap _
        rw [ehq191]
        exact ⟨rfl, N191⟩
  · skip
    subst hk
    have Vc195 := f129
    obtain ⟨cl195, Ar195, Aq195, As195, An195, Ah195, Ag195⟩ := Vc195
    have hin195 : ¬ ((2 : Int32) < 0 ∨ cl195.slots.size ≤ ((2 : Int32)).toNatClampNeg) := inb_of As195 ⟨by decide, by decide⟩
    have pre196 : ∀ tq, Steps p.tables e below (T112.setTop (mkF m 43 #[.val (.int p1), .val (.ref b2), .unset, .unset, .unset] [(.ref s_S)])) tq → Steps p.tables e below (s₁.setTop (entryFrame m #[(.int p1)] maxLocals)) tq := fun tq kq => pre131 tq (X112.aaload hx (j := (2 : Int32)) (v := (.ref s_S)) (by rw [e112]; exact Ar195.1) (State.isArrayOf_alike hZ.alike Ar195.2.1) rfl Ar195.2.2 hin195 (Has.at Ah195 hin195 rfl) (g := (mkF m 42 #[.val (.int p1), .val (.ref b2), .unset, .unset, .unset] [(.int (2 : Int32)), (.ref b2)])) rfl rfl (hb hby at_42) _ kq)
    have pre197 : ∀ tq, Steps p.tables e below (T112.setTop (mkF m 45 #[.val (.int p1), .val (.ref b2), .val (.ref s_S), .unset, .unset] [(.ref s_S)])) tq → Steps p.tables e below (s₁.setTop (entryFrame m #[(.int p1)] maxLocals)) tq := by
      refine fun tq kq => pre196 tq ?_
      show Steps p.tables e below (T112.setTop (mkF m 43 #[.val (.int p1), .val (.ref b2), .unset, .unset, .unset] [(.ref s_S)])) _
      refine XS.astoreN X112.here hx rfl (hb hby at_43) rfl rfl (l' := #[.val (.int p1), .val (.ref b2), .val (.ref s_S), .unset, .unset]) rfl ?_
      show Steps p.tables e below (T112.setTop (mkF m 44 #[.val (.int p1), .val (.ref b2), .val (.ref s_S), .unset, .unset] [])) _
      refine XS.aloadN X112.here hx rfl (hb hby at_44) rfl rfl ?_
      exact kq
    have Z198 : n0 ≤ h112.size := (Nat.le_trans (Nat.le_trans (Nat.le_trans (Nat.le_trans (Nat.le_trans (Nat.le_trans Z0 E2.1) (Keep.of_wr W28).1) (Keep.of_wr W49).1) (Keep.of_wr W70).1) (Keep.of_wr W91).1) (Keep.of_wr W112).1)
    obtain ⟨cq198, kq198, q198a, q198b, q198c⟩ := isOf hZ e112 f119
    obtain ⟨_, _, ⟨T198, L198, k198, n198⟩, -, X198, ⟨Lc198, hQ198, l198, y198, z198⟩, st198⟩ := X112.virtualBack hx (y := (⟨"com/example/latchwork/latchwork/lock/LockMode", "intention", "()Lcom/example/latchwork/latchwork/lock/LockMode;"⟩ : MethodName)) (z := (⟨"com/example/latchwork/latchwork/lock/LockMode", "intention", "()Lcom/example/latchwork/latchwork/lock/LockMode;"⟩ : MethodName)) hown (mvT hZ (hw _ (List.mem_of_getElem? (i := 15) rfl))) (mvT hZ (hw _ (List.mem_of_getElem? (i := 16) rfl))) (notFace_of_selects (args := #[]) (mvT hZ (hw _ (List.mem_of_getElem? (i := 18) rfl)))) (mvT hZ (hw _ (List.mem_of_getElem? (i := 18) rfl))) (mvT hZ (hw _ (List.mem_of_getElem? (i := 17) rfl))) (by decide) (backOf (W := 0) (rm1 l Z a0 hw [] s_S s_IS s_S s_IX h112 n0 Z198 f114 f118 f116) hZ (hw _ (List.mem_of_getElem? (i := 19) rfl)) (hw _ (List.mem_of_getElem? (i := 3) rfl)) (by decide) (by decide)) q198a q198c (g := (mkF m 45 #[.val (.int p1), .val (.ref b2), .val (.ref s_S), .unset, .unset] [(.ref s_S)])) rfl (by rw [hml]; rfl) (Steps.refl _) (argsL := []) (rest := []) (lenOf pd0_0 rfl) rfl (by show 2 * 0 + _ ≤ _; exact Nat.le_of_eq rfl) (hb hby at_45) (fun _ _ => ⟨rfl, e112, (by decide : (0 + 1) + 0 ≤ _), (by decide : (0 + 5) + 0 ≤ _)⟩)
    dsimp only [Pt.U, Pt.locs, Pt.cells, Pt.slots] at X198 l198 y198 z198 st198 hQ198
    subst l198 y198 z198
    obtain ⟨r199, rfl, Nq198, ehq198, hq198⟩ := hQ198
    have N198 := Fr.app N112 Nq198
    have pre200 : ∀ tq, Steps p.tables e below (T198.setTop (mkF m 48 #[.val (.int p1), .val (.ref b2), .val (.ref s_S), .unset, .unset] [(.ref r199)])) tq → Steps p.tables e below (s₁.setTop (entryFrame m #[(.int p1)] maxLocals)) tq := fun tq kq => pre197 tq (st198.trans kq)
    have hr_r199 : r199 = s_IS := by rcases hq198 with ⟨q1, rfl⟩ | ⟨q1, q2, rfl⟩ | ⟨q1, q2, rfl⟩ <;> first | rfl | exact absurd q1 (by assumption) | exact absurd q2 (by assumption) | exact absurd q1.symm (by assumption) | exact absurd q2.symm (by assumption) | exact absurd rfl q1 | exact absurd rfl q2
    have hr_r199_s := hr_r199.symm; subst hr_r199_s
    have pre201 : ∀ tq, Steps p.tables e below (T198.setTop (mkF m 49 #[.val (.int p1), .val (.ref b2), .val (.ref s_S), .val (.ref s_IS), .unset] [])) tq → Steps p.tables e below (s₁.setTop (entryFrame m #[(.int p1)] maxLocals)) tq := by
      refine fun tq kq => pre200 tq ?_
      show Steps p.tables e below (T198.setTop (mkF m 48 #[.val (.int p1), .val (.ref b2), .val (.ref s_S), .unset, .unset] [(.ref s_IS)])) _
      refine XS.astoreN X198.here hx rfl (hb hby at_48) rfl rfl (l' := #[.val (.int p1), .val (.ref b2), .val (.ref s_S), .val (.ref s_IS), .unset]) rfl ?_
      exact kq
    obtain ⟨T202, X202, e202, st202⟩ := getS2 X198 hx hZ hown (host := "") (Or.inl (hw _ (List.mem_of_getElem? (i := 8) rfl))) Via.refl ehq198 f118 (g := (mkF m 49 #[.val (.int p1), .val (.ref b2), .val (.ref s_S), .val (.ref s_IS), .unset] [])) rfl (hb hby at_49)
    have pre203 : ∀ tq, Steps p.tables e below (T202.setTop (mkF m 52 #[.val (.int p1), .val (.ref b2), .val (.ref s_S), .val (.ref s_IS), .unset] [(.ref s_S)])) tq → Steps p.tables e below (s₁.setTop (entryFrame m #[(.int p1)] maxLocals)) tq := fun tq kq => pre201 tq (st202 _ kq)
    have pre204 : ∀ tq, Steps p.tables e below (T202.setTop (mkF m 53 #[.val (.int p1), .val (.ref b2), .val (.ref s_S), .val (.ref s_IS), .unset] [(.ref s_S), (.ref s_S)])) tq → Steps p.tables e below (s₁.setTop (entryFrame m #[(.int p1)] maxLocals)) tq := by
      refine fun tq kq => pre203 tq ?_
      show Steps p.tables e below (T202.setTop (mkF m 52 #[.val (.int p1), .val (.ref b2), .val (.ref s_S), .val (.ref s_IS), .unset] [(.ref s_S)])) _
      refine XS.aloadN X202.here hx rfl (hb hby at_52) rfl rfl ?_
      exact kq
    have Z205 : n0 ≤ h112.size := (Nat.le_trans (Nat.le_trans (Nat.le_trans (Nat.le_trans (Nat.le_trans (Nat.le_trans Z0 E2.1) (Keep.of_wr W28).1) (Keep.of_wr W49).1) (Keep.of_wr W70).1) (Keep.of_wr W91).1) (Keep.of_wr W112).1)
    obtain ⟨cq205, kq205, q205a, q205b, q205c⟩ := isOf hZ e202 f119
    obtain ⟨_, _, ⟨T205, L205, k205, n205⟩, -, X205, ⟨Lc205, hQ205, l205, y205, z205⟩, st205⟩ := X202.virtualBack hx (y := (⟨"com/example/latchwork/latchwork/lock/LockMode", "covers", "(Lcom/example/latchwork/latchwork/lock/LockMode;)Z"⟩ : MethodName)) (z := (⟨"com/example/latchwork/latchwork/lock/LockMode", "covers", "(Lcom/example/latchwork/latchwork/lock/LockMode;)Z"⟩ : MethodName)) hown (mvT hZ (hw _ (List.mem_of_getElem? (i := 21) rfl))) (mvT hZ (hw _ (List.mem_of_getElem? (i := 22) rfl))) (notFace_of_selects (args := #[]) (mvT hZ (hw _ (List.mem_of_getElem? (i := 24) rfl)))) (mvT hZ (hw _ (List.mem_of_getElem? (i := 24) rfl))) (mvT hZ (hw _ (List.mem_of_getElem? (i := 23) rfl))) (by decide) (backOf (W := 0) (rm2 l Z a0 hw [] s_S s_S s_IS h112 n0 Z205 f114 f119 f124) hZ (hw _ (List.mem_of_getElem? (i := 25) rfl)) (hw _ (List.mem_of_getElem? (i := 3) rfl)) (by decide) (by decide)) q205a q205c (g := (mkF m 53 #[.val (.int p1), .val (.ref b2), .val (.ref s_S), .val (.ref s_IS), .unset] [(.ref s_S), (.ref s_S)])) rfl (by rw [hml]; rfl) (Steps.refl _) (argsL := [(.ref s_S)]) (rest := []) (lenOf pd0_1 rfl) rfl (by show 2 * 0 + _ ≤ _; exact Nat.le_of_eq rfl) (hb hby at_53) (fun _ _ => ⟨rfl, e202, (by decide : ((0 + 1) + 0) + 0 ≤ _), (by decide : ((0 + 5) + 0) + 0 ≤ _)⟩)
    dsimp only [Pt.U, Pt.locs, Pt.cells, Pt.slots] at X205 l205 y205 z205 st205 hQ205
    subst l205 y205 z205
    obtain ⟨r206, rfl, Nq205, ehq205, hq205⟩ := hQ205
    have N205 := Fr.app N198 Nq205
    have pre207 : ∀ tq, Steps p.tables e below (T205.setTop (mkF m 56 #[.val (.int p1), .val (.ref b2), .val (.ref s_S), .val (.ref s_IS), .unset] [(.int r206)])) tq → Steps p.tables e below (s₁.setTop (entryFrame m #[(.int p1)] maxLocals)) tq := fun tq kq => pre204 tq (st205.trans kq)
    have hr_r206 : r206 = (1 : Int32) := by rcases hq205 with ⟨q1, rfl⟩ | ⟨q1, q2, rfl⟩ | ⟨q1, q2, rfl⟩ <;> first | rfl | exact absurd q1 (by assumption) | exact absurd q2 (by assumption) | exact absurd q1.symm (by assumption) | exact absurd q2.symm (by assumption) | exact absurd rfl q1 | exact absurd rfl q2
    subst hr_r206
    have pre208 : ∀ tq, Steps p.tables e below (T205.setTop (mkF m 59 #[.val (.int p1), .val (.ref b2), .val (.ref s_S), .val (.ref s_IS), .unset] [])) tq → Steps p.tables e below (s₁.setTop (entryFrame m #[(.int p1)] maxLocals)) tq := by
      refine fun tq kq => pre207 tq ?_
      show Steps p.tables e below (T205.setTop (mkF m 56 #[.val (.int p1), .val (.ref b2), .val (.ref s_S), .val (.ref s_IS), .unset] [(.int (1 : Int32))])) _
      refine XS.ifNo X205.here hx rfl (hb hby at_56) rfl ((if0 _ _).trans (feq (by decide : ¬ ((1 : Int32) = (0 : Int32)))).1) ?_
      exact kq
    obtain ⟨T209, X209, e209, st209⟩ := getS2 X205 hx hZ hown (host := "") (Or.inl (hw _ (List.mem_of_getElem? (i := 2) rfl))) Via.refl ehq205 f114 (g := (mkF m 59 #[.val (.int p1), .val (.ref b2), .val (.ref s_S), .val (.ref s_IS), .unset] [])) rfl (hb hby at_59)
    have pre210 : ∀ tq, Steps p.tables e below (T209.setTop (mkF m 62 #[.val (.int p1), .val (.ref b2), .val (.ref s_S), .val (.ref s_IS), .unset] [(.ref s_IS)])) tq → Steps p.tables e below (s₁.setTop (entryFrame m #[(.int p1)] maxLocals)) tq := fun tq kq => pre208 tq (st209 _ kq)
    have pre211 : ∀ tq, Steps p.tables e below (T209.setTop (mkF m 78 #[.val (.int p1), .val (.ref b2), .val (.ref s_S), .val (.ref s_IS), .val (.ref s_IS)] [])) tq → Steps p.tables e below (s₁.setTop (entryFrame m #[(.int p1)] maxLocals)) tq := by
      refine fun tq kq => pre210 tq ?_
      show Steps p.tables e below (T209.setTop (mkF m 62 #[.val (.int p1), .val (.ref b2), .val (.ref s_S), .val (.ref s_IS), .unset] [(.ref s_IS)])) _
      refine XS.goto X209.here hx rfl (pc0 := 62) (pc' := 68) rfl (hb hby at_62) (by decide) (by decide) ?_
      show Steps p.tables e below (T209.setTop (mkF m 68 #[.val (.int p1), .val (.ref b2), .val (.ref s_S), .val (.ref s_IS), .unset] [(.ref s_IS)])) _
      refine XS.astore X209.here hx rfl (hb hby at_68) rfl rfl (l' := #[.val (.int p1), .val (.ref b2), .val (.ref s_S), .val (.ref s_IS), .val (.ref s_IS)]) rfl ?_
      show Steps p.tables e below (T209.setTop (mkF m 70 #[.val (.int p1), .val (.ref b2), .val (.ref s_S), .val (.ref s_IS), .val (.ref s_IS)] [])) _
      refine XS.aloadN X209.here hx rfl (hb hby at_70) rfl rfl ?_
      show Steps p.tables e below (T209.setTop (mkF m 71 #[.val (.int p1), .val (.ref b2), .val (.ref s_S), .val (.ref s_IS), .val (.ref s_IS)] [(.ref s_IS)])) _
      refine XS.aload X209.here hx rfl (hb hby at_71) rfl rfl ?_
      show Steps p.tables e below (T209.setTop (mkF m 73 #[.val (.int p1), .val (.ref b2), .val (.ref s_S), .val (.ref s_IS), .val (.ref s_IS)] [(.ref s_IS), (.ref s_IS)])) _
      refine Jvm.RoadKit.acmp (g := (mkF m 73 #[.val (.int p1), .val (.ref b2), .val (.ref s_S), .val (.ref s_IS), .val (.ref s_IS)] [(.ref s_IS), (.ref s_IS)])) X209 hx rfl rfl rfl (pc0 := 73) (pc' := 78) (same := true) rfl (hb hby at_73) rfl (decide_eq_true rfl) (by decide) (by decide) ?_
      exact kq
    have pre212 : ∀ tq, Steps p.tables e below (T209.setTop (mkF m 79 #[.val (.int p1), .val (.ref b2), .val (.ref s_S), .val (.ref s_IS), .val (.ref s_IS)] [(.ref s_IS)])) tq → Steps p.tables e below (s₁.setTop (entryFrame m #[(.int p1)] maxLocals)) tq := by
      refine fun tq kq => pre211 tq ?_
      show Steps p.tables e below (T209.setTop (mkF m 78 #[.val (.int p1), .val (.ref b2), .val (.ref s_S), .val (.ref s_IS), .val (.ref s_IS)] [])) _
      refine XS.aloadN X209.here hx rfl (hb hby at_78) rfl rfl ?_
      exact kq
    obtain ⟨T213, X213, e213, st213⟩ := getS2 X209 hx hZ hown (host := "") (Or.inl (hw _ (List.mem_of_getElem? (i := 2) rfl))) Via.refl e209 f114 (g := (mkF m 79 #[.val (.int p1), .val (.ref b2), .val (.ref s_S), .val (.ref s_IS), .val (.ref s_IS)] [(.ref s_IS)])) rfl (hb hby at_79)
    have pre214 : ∀ tq, Steps p.tables e below (T213.setTop (mkF m 82 #[.val (.int p1), .val (.ref b2), .val (.ref s_S), .val (.ref s_IS), .val (.ref s_IS)] [(.ref s_IS), (.ref s_IS)])) tq → Steps p.tables e below (s₁.setTop (entryFrame m #[(.int p1)] maxLocals)) tq := fun tq kq => pre212 tq (st213 _ kq)
    have pre215 : ∀ tq, Steps p.tables e below (T213.setTop (mkF m 94 #[.val (.int p1), .val (.ref b2), .val (.ref s_S), .val (.ref s_IS), .val (.ref s_IS)] [])) tq → Steps p.tables e below (s₁.setTop (entryFrame m #[(.int p1)] maxLocals)) tq := by
      refine fun tq kq => pre214 tq ?_
      show Steps p.tables e below (T213.setTop (mkF m 82 #[.val (.int p1), .val (.ref b2), .val (.ref s_S), .val (.ref s_IS), .val (.ref s_IS)] [(.ref s_IS), (.ref s_IS)])) _
      refine Jvm.RoadKit.acmp (g := (mkF m 82 #[.val (.int p1), .val (.ref b2), .val (.ref s_S), .val (.ref s_IS), .val (.ref s_IS)] [(.ref s_IS), (.ref s_IS)])) X213 hx rfl rfl rfl (pc0 := 82) (pc' := 94) (same := true) rfl (hb hby at_82) rfl (decide_eq_true rfl) (by decide) (by decide) ?_
      exact kq
    have pre216 : ∀ tq, Steps p.tables e below (T213.setTop (mkF m 95 #[.val (.int p1), .val (.ref b2), .val (.ref s_S), .val (.ref s_IS), .val (.ref s_IS)] [(.ref s_IS)])) tq → Steps p.tables e below (s₁.setTop (entryFrame m #[(.int p1)] maxLocals)) tq := by
      refine fun tq kq => pre215 tq ?_
      show Steps p.tables e below (T213.setTop (mkF m 94 #[.val (.int p1), .val (.ref b2), .val (.ref s_S), .val (.ref s_IS), .val (.ref s_IS)] [])) _
      refine XS.aloadN X213.here hx rfl (hb hby at_94) rfl rfl ?_
      exact kq
    have Z217 : n0 ≤ h112.size := (Nat.le_trans (Nat.le_trans (Nat.le_trans (Nat.le_trans (Nat.le_trans (Nat.le_trans Z0 E2.1) (Keep.of_wr W28).1) (Keep.of_wr W49).1) (Keep.of_wr W70).1) (Keep.of_wr W91).1) (Keep.of_wr W112).1)
    obtain ⟨cq217, kq217, q217a, q217b, q217c⟩ := isOf hZ e213 f115
    obtain ⟨_, _, ⟨T217, L217, k217, n217⟩, -, X217, ⟨Lc217, hQ217, l217, y217, z217⟩, st217⟩ := X213.virtualBack hx (y := (⟨"com/example/latchwork/latchwork/lock/LockMode", "intention", "()Lcom/example/latchwork/latchwork/lock/LockMode;"⟩ : MethodName)) (z := (⟨"com/example/latchwork/latchwork/lock/LockMode", "intention", "()Lcom/example/latchwork/latchwork/lock/LockMode;"⟩ : MethodName)) hown (mvT hZ (hw _ (List.mem_of_getElem? (i := 15) rfl))) (mvT hZ (hw _ (List.mem_of_getElem? (i := 16) rfl))) (notFace_of_selects (args := #[]) (mvT hZ (hw _ (List.mem_of_getElem? (i := 18) rfl)))) (mvT hZ (hw _ (List.mem_of_getElem? (i := 18) rfl))) (mvT hZ (hw _ (List.mem_of_getElem? (i := 17) rfl))) (by decide) (backOf (W := 0) (rm1 l Z a0 hw [] s_IS s_IS s_S s_IX h112 n0 Z217 f114 f118 f116) hZ (hw _ (List.mem_of_getElem? (i := 19) rfl)) (hw _ (List.mem_of_getElem? (i := 3) rfl)) (by decide) (by decide)) q217a q217c (g := (mkF m 95 #[.val (.int p1), .val (.ref b2), .val (.ref s_S), .val (.ref s_IS), .val (.ref s_IS)] [(.ref s_IS)])) rfl (by rw [hml]; rfl) (Steps.refl _) (argsL := []) (rest := []) (lenOf pd0_0 rfl) rfl (by show 2 * 0 + _ ≤ _; exact Nat.le_of_eq rfl) (hb hby at_95) (fun _ _ => ⟨rfl, e213, (by decide : (((0 + 1) + 0) + 0) + 0 ≤ _), (by decide : (((0 + 5) + 0) + 0) + 0 ≤ _)⟩)
    dsimp only [Pt.U, Pt.locs, Pt.cells, Pt.slots] at X217 l217 y217 z217 st217 hQ217
    subst l217 y217 z217
    obtain ⟨r218, rfl, Nq217, ehq217, hq217⟩ := hQ217
    have N217 := Fr.app N205 Nq217
    have pre219 : ∀ tq, Steps p.tables e below (T217.setTop (mkF m 98 #[.val (.int p1), .val (.ref b2), .val (.ref s_S), .val (.ref s_IS), .val (.ref s_IS)] [(.ref r218)])) tq → Steps p.tables e below (s₁.setTop (entryFrame m #[(.int p1)] maxLocals)) tq := fun tq kq => pre216 tq (st217.trans kq)
    have hr_r218 : r218 = s_IS := by rcases hq217 with ⟨q1, rfl⟩ | ⟨q1, q2, rfl⟩ | ⟨q1, q2, rfl⟩ <;> first | rfl | exact absurd q1 (by assumption) | exact absurd q2 (by assumption) | exact absurd q1.symm (by assumption) | exact absurd q2.symm (by assumption) | exact absurd rfl q1 | exact absurd rfl q2
    have hr_r218_s := hr_r218.symm; subst hr_r218_s
    have pre220 : ∀ tq, Steps p.tables e below (T217.setTop (mkF m 102 #[.val (.int p1), .val (.ref b2), .val (.ref s_S), .val (.ref s_IS), .val (.ref s_IS)] [])) tq → Steps p.tables e below (s₁.setTop (entryFrame m #[(.int p1)] maxLocals)) tq := by
      refine fun tq kq => pre219 tq ?_
      show Steps p.tables e below (T217.setTop (mkF m 98 #[.val (.int p1), .val (.ref b2), .val (.ref s_S), .val (.ref s_IS), .val (.ref s_IS)] [(.ref s_IS)])) _
      refine XS.aloadN X217.here hx rfl (hb hby at_98) rfl rfl ?_
      show Steps p.tables e below (T217.setTop (mkF m 99 #[.val (.int p1), .val (.ref b2), .val (.ref s_S), .val (.ref s_IS), .val (.ref s_IS)] [(.ref s_IS), (.ref s_IS)])) _
      refine Jvm.RoadKit.acmp (g := (mkF m 99 #[.val (.int p1), .val (.ref b2), .val (.ref s_S), .val (.ref s_IS), .val (.ref s_IS)] [(.ref s_IS), (.ref s_IS)])) X217 hx rfl rfl rfl (pc0 := 99) (pc' := 102) (same := true) rfl (hb hby at_99) rfl (decide_eq_true rfl) (by decide) (by decide) ?_
      exact kq
    obtain ⟨fs, hr, hrun, hended, hW, hsame⟩ := X217.leave (v := some (.int (1 : Int32))) (fun h => by rw [Bd.returns] at h; cases h)
    refine ⟨_, _, pre220 _ ?_, hrun, hended, _, _, rfl, ?_, ⟨_, rfl⟩, hW, hsame.mono (by decide) (by decide)⟩
    · skip
      show Steps p.tables e below (T217.setTop (mkF m 102 #[.val (.int p1), .val (.ref b2), .val (.ref s_S), .val (.ref s_IS), .val (.ref s_IS)] [])) _
      refine XS.iconst X217.here hx rfl (hb hby at_102) ?_
      show Steps p.tables e below (T217.setTop (mkF m 103 #[.val (.int p1), .val (.ref b2), .val (.ref s_S), .val (.ref s_IS), .val (.ref s_IS)] [(.int (1 : Int32))])) _
      refine XS.goto X217.here hx rfl (pc0 := 103) (pc' := 107) rfl (hb hby at_103) (by decide) (by decide) ?_
      show Steps p.tables e below (T217.setTop (mkF m 107 #[.val (.int p1), .val (.ref b2), .val (.ref s_S), .val (.ref s_IS), .val (.ref s_IS)] [(.int (1 : Int32))])) _
      exact retN X217 hx (t := .boolean) Bd.returns (by simp) (hb hby at_107) hr
    · show Q0 Z p1 s_IS s_IX s_S s_SIX s_X h0 n0 _ T217.heap _
      rw [ehq217]
      exact ⟨rfl, N217⟩
  · skip
    subst hk
    have Vc221 := f129
    obtain ⟨cl221, Ar221, Aq221, As221, An221, Ah221, Ag221⟩ := Vc221
    have hin221 : ¬ ((3 : Int32) < 0 ∨ cl221.slots.size ≤ ((3 : Int32)).toNatClampNeg) := inb_of As221 ⟨by decide, by decide⟩
    have pre222 : ∀ tq, Steps p.tables e below (T112.setTop (mkF m 43 #[.val (.int p1), .val (.ref b2), .unset, .unset, .unset] [(.ref s_SIX)])) tq → Steps p.tables e below (s₁.setTop (entryFrame m #[(.int p1)] maxLocals)) tq := fun tq kq => pre131 tq (X112.aaload hx (j := (3 : Int32)) (v := (.ref s_SIX)) (by rw [e112]; exact Ar221.1) (State.isArrayOf_alike hZ.alike Ar221.2.1) rfl Ar221.2.2 hin221 (Has.at Ah221 hin221 rfl) (g := (mkF m 42 #[.val (.int p1), .val (.ref b2), .unset, .unset, .unset] [(.int (3 : Int32)), (.ref b2)])) rfl rfl (hb hby at_42) _ kq)
    have pre223 : ∀ tq, Steps p.tables e below (T112.setTop (mkF m 45 #[.val (.int p1), .val (.ref b2), .val (.ref s_SIX), .unset, .unset] [(.ref s_SIX)])) tq → Steps p.tables e below (s₁.setTop (entryFrame m #[(.int p1)] maxLocals)) tq := by
      refine fun tq kq => pre222 tq ?_
      show Steps p.tables e below (T112.setTop (mkF m 43 #[.val (.int p1), .val (.ref b2), .unset, .unset, .unset] [(.ref s_SIX)])) _
      refine XS.astoreN X112.here hx rfl (hb hby at_43) rfl rfl (l' := #[.val (.int p1), .val (.ref b2), .val (.ref s_SIX), .unset, .unset]) rfl ?_
      show Steps p.tables e below (T112.setTop (mkF m 44 #[.val (.int p1), .val (.ref b2), .val (.ref s_SIX), .unset, .unset] [])) _
      refine XS.aloadN X112.here hx rfl (hb hby at_44) rfl rfl ?_
      exact kq
    have Z224 : n0 ≤ h112.size := (Nat.le_trans (Nat.le_trans (Nat.le_trans (Nat.le_trans (Nat.le_trans (Nat.le_trans Z0 E2.1) (Keep.of_wr W28).1) (Keep.of_wr W49).1) (Keep.of_wr W70).1) (Keep.of_wr W91).1) (Keep.of_wr W112).1)
    obtain ⟨cq224, kq224, q224a, q224b, q224c⟩ := isOf hZ e112 f121
    obtain ⟨_, _, ⟨T224, L224, k224, n224⟩, -, X224, ⟨Lc224, hQ224, l224, y224, z224⟩, st224⟩ := X112.virtualBack hx (y := (⟨"com/example/latchwork/latchwork/lock/LockMode", "intention", "()Lcom/example/latchwork/latchwork/lock/LockMode;"⟩ : MethodName)) (z := (⟨"com/example/latchwork/latchwork/lock/LockMode", "intention", "()Lcom/example/latchwork/latchwork/lock/LockMode;"⟩ : MethodName)) hown (mvT hZ (hw _ (List.mem_of_getElem? (i := 15) rfl))) (mvT hZ (hw _ (List.mem_of_getElem? (i := 16) rfl))) (notFace_of_selects (args := #[]) (mvT hZ (hw _ (List.mem_of_getElem? (i := 18) rfl)))) (mvT hZ (hw _ (List.mem_of_getElem? (i := 18) rfl))) (mvT hZ (hw _ (List.mem_of_getElem? (i := 17) rfl))) (by decide) (backOf (W := 0) (rm1 l Z a0 hw [] s_SIX s_IS s_S s_IX h112 n0 Z224 f114 f118 f116) hZ (hw _ (List.mem_of_getElem? (i := 19) rfl)) (hw _ (List.mem_of_getElem? (i := 3) rfl)) (by decide) (by decide)) q224a q224c (g := (mkF m 45 #[.val (.int p1), .val (.ref b2), .val (.ref s_SIX), .unset, .unset] [(.ref s_SIX)])) rfl (by rw [hml]; rfl) (Steps.refl _) (argsL := []) (rest := []) (lenOf pd0_0 rfl) rfl (by show 2 * 0 + _ ≤ _; exact Nat.le_of_eq rfl) (hb hby at_45) (fun _ _ => ⟨rfl, e112, (by decide : (0 + 1) + 0 ≤ _), (by decide : (0 + 5) + 0 ≤ _)⟩)
    dsimp only [Pt.U, Pt.locs, Pt.cells, Pt.slots] at X224 l224 y224 z224 st224 hQ224
    subst l224 y224 z224
    obtain ⟨r225, rfl, Nq224, ehq224, hq224⟩ := hQ224
    have N224 := Fr.app N112 Nq224
    have pre226 : ∀ tq, Steps p.tables e below (T224.setTop (mkF m 48 #[.val (.int p1), .val (.ref b2), .val (.ref s_SIX), .unset, .unset] [(.ref r225)])) tq → Steps p.tables e below (s₁.setTop (entryFrame m #[(.int p1)] maxLocals)) tq := fun tq kq => pre223 tq (st224.trans kq)
    have hr_r225 : r225 = s_IX := by rcases hq224 with ⟨q1, rfl⟩ | ⟨q1, q2, rfl⟩ | ⟨q1, q2, rfl⟩ <;> first | rfl | exact absurd q1 (by assumption) | exact absurd q2 (by assumption) | exact absurd q1.symm (by assumption) | exact absurd q2.symm (by assumption) | exact absurd rfl q1 | exact absurd rfl q2
    have hr_r225_s := hr_r225.symm; subst hr_r225_s
    have pre227 : ∀ tq, Steps p.tables e below (T224.setTop (mkF m 49 #[.val (.int p1), .val (.ref b2), .val (.ref s_SIX), .val (.ref s_IX), .unset] [])) tq → Steps p.tables e below (s₁.setTop (entryFrame m #[(.int p1)] maxLocals)) tq := by
      refine fun tq kq => pre226 tq ?_
      show Steps p.tables e below (T224.setTop (mkF m 48 #[.val (.int p1), .val (.ref b2), .val (.ref s_SIX), .unset, .unset] [(.ref s_IX)])) _
      refine XS.astoreN X224.here hx rfl (hb hby at_48) rfl rfl (l' := #[.val (.int p1), .val (.ref b2), .val (.ref s_SIX), .val (.ref s_IX), .unset]) rfl ?_
      exact kq
    obtain ⟨T228, X228, e228, st228⟩ := getS2 X224 hx hZ hown (host := "") (Or.inl (hw _ (List.mem_of_getElem? (i := 8) rfl))) Via.refl ehq224 f118 (g := (mkF m 49 #[.val (.int p1), .val (.ref b2), .val (.ref s_SIX), .val (.ref s_IX), .unset] [])) rfl (hb hby at_49)
    have pre229 : ∀ tq, Steps p.tables e below (T228.setTop (mkF m 52 #[.val (.int p1), .val (.ref b2), .val (.ref s_SIX), .val (.ref s_IX), .unset] [(.ref s_S)])) tq → Steps p.tables e below (s₁.setTop (entryFrame m #[(.int p1)] maxLocals)) tq := fun tq kq => pre227 tq (st228 _ kq)
    have pre230 : ∀ tq, Steps p.tables e below (T228.setTop (mkF m 53 #[.val (.int p1), .val (.ref b2), .val (.ref s_SIX), .val (.ref s_IX), .unset] [(.ref s_SIX), (.ref s_S)])) tq → Steps p.tables e below (s₁.setTop (entryFrame m #[(.int p1)] maxLocals)) tq := by
      refine fun tq kq => pre229 tq ?_
      show Steps p.tables e below (T228.setTop (mkF m 52 #[.val (.int p1), .val (.ref b2), .val (.ref s_SIX), .val (.ref s_IX), .unset] [(.ref s_S)])) _
      refine XS.aloadN X228.here hx rfl (hb hby at_52) rfl rfl ?_
      exact kq
    have Z231 : n0 ≤ h112.size := (Nat.le_trans (Nat.le_trans (Nat.le_trans (Nat.le_trans (Nat.le_trans (Nat.le_trans Z0 E2.1) (Keep.of_wr W28).1) (Keep.of_wr W49).1) (Keep.of_wr W70).1) (Keep.of_wr W91).1) (Keep.of_wr W112).1)
    obtain ⟨cq231, kq231, q231a, q231b, q231c⟩ := isOf hZ e228 f119
    obtain ⟨_, _, ⟨T231, L231, k231, n231⟩, -, X231, ⟨Lc231, hQ231, l231, y231, z231⟩, st231⟩ := X228.virtualBack hx (y := (⟨"com/example/latchwork/latchwork/lock/LockMode", "covers", "(Lcom/example/latchwork/latchwork/lock/LockMode;)Z"⟩ : MethodName)) (z := (⟨"com/example/latchwork/latchwork/lock/LockMode", "covers", "(Lcom/example/latchwork/latchwork/lock/LockMode;)Z"⟩ : MethodName)) hown (mvT hZ (hw _ (List.mem_of_getElem? (i := 21) rfl))) (mvT hZ (hw _ (List.mem_of_getElem? (i := 22) rfl))) (notFace_of_selects (args := #[]) (mvT hZ (hw _ (List.mem_of_getElem? (i := 24) rfl)))) (mvT hZ (hw _ (List.mem_of_getElem? (i := 24) rfl))) (mvT hZ (hw _ (List.mem_of_getElem? (i := 23) rfl))) (by decide) (backOf (W := 0) (rm2 l Z a0 hw [] s_S s_SIX s_IS h112 n0 Z231 f114 f119 f124) hZ (hw _ (List.mem_of_getElem? (i := 25) rfl)) (hw _ (List.mem_of_getElem? (i := 3) rfl)) (by decide) (by decide)) q231a q231c (g := (mkF m 53 #[.val (.int p1), .val (.ref b2), .val (.ref s_SIX), .val (.ref s_IX), .unset] [(.ref s_SIX), (.ref s_S)])) rfl (by rw [hml]; rfl) (Steps.refl _) (argsL := [(.ref s_SIX)]) (rest := []) (lenOf pd0_1 rfl) rfl (by show 2 * 0 + _ ≤ _; exact Nat.le_of_eq rfl) (hb hby at_53) (fun _ _ => ⟨rfl, e228, (by decide : ((0 + 1) + 0) + 0 ≤ _), (by decide : ((0 + 5) + 0) + 0 ≤ _)⟩)
    dsimp only [Pt.U, Pt.locs, Pt.cells, Pt.slots] at X231 l231 y231 z231 st231 hQ231
    subst l231 y231 z231
    obtain ⟨r232, rfl, Nq231, ehq231, hq231⟩ := hQ231
    have N231 := Fr.app N224 Nq231
    have pre233 : ∀ tq, Steps p.tables e below (T231.setTop (mkF m 56 #[.val (.int p1), .val (.ref b2), .val (.ref s_SIX), .val (.ref s_IX), .unset] [(.int r232)])) tq → Steps p.tables e below (s₁.setTop (entryFrame m #[(.int p1)] maxLocals)) tq := fun tq kq => pre230 tq (st231.trans kq)
    have hr_r232 : r232 = (0 : Int32) := by rcases hq231 with ⟨q1, rfl⟩ | ⟨q1, q2, rfl⟩ | ⟨q1, q2, rfl⟩ <;> first | rfl | exact absurd q1 (by assumption) | exact absurd q2 (by assumption) | exact absurd q1.symm (by assumption) | exact absurd q2.symm (by assumption) | exact absurd rfl q1 | exact absurd rfl q2
    subst hr_r232
    have pre234 : ∀ tq, Steps p.tables e below (T231.setTop (mkF m 65 #[.val (.int p1), .val (.ref b2), .val (.ref s_SIX), .val (.ref s_IX), .unset] [])) tq → Steps p.tables e below (s₁.setTop (entryFrame m #[(.int p1)] maxLocals)) tq := by
      refine fun tq kq => pre233 tq ?_
      show Steps p.tables e below (T231.setTop (mkF m 56 #[.val (.int p1), .val (.ref b2), .val (.ref s_SIX), .val (.ref s_IX), .unset] [(.int (0 : Int32))])) _
      refine XS.ifYes X231.here hx rfl (pc0 := 56) (pc' := 65) rfl (hb hby at_56) rfl ((if0 _ _).trans (teq (by decide : (0 : Int32) = (0 : Int32))).1) (by decide) (by decide) ?_
      exact kq
    obtain ⟨T235, X235, e235, st235⟩ := getS2 X231 hx hZ hown (host := "") (Or.inl (hw _ (List.mem_of_getElem? (i := 6) rfl))) Via.refl ehq231 f116 (g := (mkF m 65 #[.val (.int p1), .val (.ref b2), .val (.ref s_SIX), .val (.ref s_IX), .unset] [])) rfl (hb hby at_65)
    have pre236 : ∀ tq, Steps p.tables e below (T235.setTop (mkF m 68 #[.val (.int p1), .val (.ref b2), .val (.ref s_SIX), .val (.ref s_IX), .unset] [(.ref s_IX)])) tq → Steps p.tables e below (s₁.setTop (entryFrame m #[(.int p1)] maxLocals)) tq := fun tq kq => pre234 tq (st235 _ kq)
    have pre237 : ∀ tq, Steps p.tables e below (T235.setTop (mkF m 78 #[.val (.int p1), .val (.ref b2), .val (.ref s_SIX), .val (.ref s_IX), .val (.ref s_IX)] [])) tq → Steps p.tables e below (s₁.setTop (entryFrame m #[(.int p1)] maxLocals)) tq := by
      refine fun tq kq => pre236 tq ?_
      show Steps p.tables e below (T235.setTop (mkF m 68 #[.val (.int p1), .val (.ref b2), .val (.ref s_SIX), .val (.ref s_IX), .unset] [(.ref s_IX)])) _
      refine XS.astore X235.here hx rfl (hb hby at_68) rfl rfl (l' := #[.val (.int p1), .val (.ref b2), .val (.ref s_SIX), .val (.ref s_IX), .val (.ref s_IX)]) rfl ?_
      show Steps p.tables e below (T235.setTop (mkF m 70 #[.val (.int p1), .val (.ref b2), .val (.ref s_SIX), .val (.ref s_IX), .val (.ref s_IX)] [])) _
      refine XS.aloadN X235.here hx rfl (hb hby at_70) rfl rfl ?_
      show Steps p.tables e below (T235.setTop (mkF m 71 #[.val (.int p1), .val (.ref b2), .val (.ref s_SIX), .val (.ref s_IX), .val (.ref s_IX)] [(.ref s_IX)])) _
      refine XS.aload X235.here hx rfl (hb hby at_71) rfl rfl ?_
      show Steps p.tables e below (T235.setTop (mkF m 73 #[.val (.int p1), .val (.ref b2), .val (.ref s_SIX), .val (.ref s_IX), .val (.ref s_IX)] [(.ref s_IX), (.ref s_IX)])) _
      refine Jvm.RoadKit.acmp (g := (mkF m 73 #[.val (.int p1), .val (.ref b2), .val (.ref s_SIX), .val (.ref s_IX), .val (.ref s_IX)] [(.ref s_IX), (.ref s_IX)])) X235 hx rfl rfl rfl (pc0 := 73) (pc' := 78) (same := true) rfl (hb hby at_73) rfl (decide_eq_true rfl) (by decide) (by decide) ?_
      exact kq
    have pre238 : ∀ tq, Steps p.tables e below (T235.setTop (mkF m 79 #[.val (.int p1), .val (.ref b2), .val (.ref s_SIX), .val (.ref s_IX), .val (.ref s_IX)] [(.ref s_IX)])) tq → Steps p.tables e below (s₁.setTop (entryFrame m #[(.int p1)] maxLocals)) tq := by
      refine fun tq kq => pre237 tq ?_
      show Steps p.tables e below (T235.setTop (mkF m 78 #[.val (.int p1), .val (.ref b2), .val (.ref s_SIX), .val (.ref s_IX), .val (.ref s_IX)] [])) _
      refine XS.aloadN X235.here hx rfl (hb hby at_78) rfl rfl ?_
      exact kq
    obtain ⟨T239, X239, e239, st239⟩ := getS2 X235 hx hZ hown (host := "") (Or.inl (hw _ (List.mem_of_getElem? (i := 2) rfl))) Via.refl e235 f114 (g := (mkF m 79 #[.val (.int p1), .val (.ref b2), .val (.ref s_SIX), .val (.ref s_IX), .val (.ref s_IX)] [(.ref s_IX)])) rfl (hb hby at_79)
    have pre240 : ∀ tq, Steps p.tables e below (T239.setTop (mkF m 82 #[.val (.int p1), .val (.ref b2), .val (.ref s_SIX), .val (.ref s_IX), .val (.ref s_IX)] [(.ref s_IS), (.ref s_IX)])) tq → Steps p.tables e below (s₁.setTop (entryFrame m #[(.int p1)] maxLocals)) tq := fun tq kq => pre238 tq (st239 _ kq)
    by_cases hc82 : s_IX = s_IS
    · skip
      have pre241 : ∀ tq, Steps p.tables e below (T239.setTop (mkF m 94 #[.val (.int p1), .val (.ref b2), .val (.ref s_SIX), .val (.ref s_IX), .val (.ref s_IX)] [])) tq → Steps p.tables e below (s₁.setTop (entryFrame m #[(.int p1)] maxLocals)) tq := by
        refine fun tq kq => pre240 tq ?_
        show Steps p.tables e below (T239.setTop (mkF m 82 #[.val (.int p1), .val (.ref b2), .val (.ref s_SIX), .val (.ref s_IX), .val (.ref s_IX)] [(.ref s_IS), (.ref s_IX)])) _
        refine Jvm.RoadKit.acmp (g := (mkF m 82 #[.val (.int p1), .val (.ref b2), .val (.ref s_SIX), .val (.ref s_IX), .val (.ref s_IX)] [(.ref s_IS), (.ref s_IX)])) X239 hx rfl rfl rfl (pc0 := 82) (pc' := 94) (same := true) rfl (hb hby at_82) rfl (decide_eq_true (congrArg Value.ref hc82)) (by decide) (by decide) ?_
        exact kq
      have pre242 : ∀ tq, Steps p.tables e below (T239.setTop (mkF m 95 #[.val (.int p1), .val (.ref b2), .val (.ref s_SIX), .val (.ref s_IX), .val (.ref s_IX)] [(.ref s_IX)])) tq → Steps p.tables e below (s₁.setTop (entryFrame m #[(.int p1)] maxLocals)) tq := by
        refine fun tq kq => pre241 tq ?_
        show Steps p.tables e below (T239.setTop (mkF m 94 #[.val (.int p1), .val (.ref b2), .val (.ref s_SIX), .val (.ref s_IX), .val (.ref s_IX)] [])) _
        refine XS.aloadN X239.here hx rfl (hb hby at_94) rfl rfl ?_
        exact kq
      have Z243 : n0 ≤ h112.size := (Nat.le_trans (Nat.le_trans (Nat.le_trans (Nat.le_trans (Nat.le_trans (Nat.le_trans Z0 E2.1) (Keep.of_wr W28).1) (Keep.of_wr W49).1) (Keep.of_wr W70).1) (Keep.of_wr W91).1) (Keep.of_wr W112).1)
      obtain ⟨cq243, kq243, q243a, q243b, q243c⟩ := isOf hZ e239 f117
      obtain ⟨_, _, ⟨T243, L243, k243, n243⟩, -, X243, ⟨Lc243, hQ243, l243, y243, z243⟩, st243⟩ := X239.virtualBack hx (y := (⟨"com/example/latchwork/latchwork/lock/LockMode", "intention", "()Lcom/example/latchwork/latchwork/lock/LockMode;"⟩ : MethodName)) (z := (⟨"com/example/latchwork/latchwork/lock/LockMode", "intention", "()Lcom/example/latchwork/latchwork/lock/LockMode;"⟩ : MethodName)) hown (mvT hZ (hw _ (List.mem_of_getElem? (i := 15) rfl))) (mvT hZ (hw _ (List.mem_of_getElem? (i := 16) rfl))) (notFace_of_selects (args := #[]) (mvT hZ (hw _ (List.mem_of_getElem? (i := 18) rfl)))) (mvT hZ (hw _ (List.mem_of_getElem? (i := 18) rfl))) (mvT hZ (hw _ (List.mem_of_getElem? (i := 17) rfl))) (by decide) (backOf (W := 0) (rm1 l Z a0 hw [] s_IX s_IS s_S s_IX h112 n0 Z243 f114 f118 f116) hZ (hw _ (List.mem_of_getElem? (i := 19) rfl)) (hw _ (List.mem_of_getElem? (i := 3) rfl)) (by decide) (by decide)) q243a q243c (g := (mkF m 95 #[.val (.int p1), .val (.ref b2), .val (.ref s_SIX), .val (.ref s_IX), .val (.ref s_IX)] [(.ref s_IX)])) rfl (by rw [hml]; rfl) (Steps.refl _) (argsL := []) (rest := []) (lenOf pd0_0 rfl) rfl (by show 2 * 0 + _ ≤ _; exact Nat.le_of_eq rfl) (hb hby at_95) (fun _ _ => ⟨rfl, e239, (by decide : (((0 + 1) + 0) + 0) + 0 ≤ _), (by decide : (((0 + 5) + 0) + 0) + 0 ≤ _)⟩)
      dsimp only [Pt.U, Pt.locs, Pt.cells, Pt.slots] at X243 l243 y243 z243 st243 hQ243
      subst l243 y243 z243
      obtain ⟨r244, rfl, Nq243, ehq243, hq243⟩ := hQ243
      have N243 := Fr.app N231 Nq243
      have pre245 : ∀ tq, Steps p.tables e below (T243.setTop (mkF m 98 #[.val (.int p1), .val (.ref b2), .val (.ref s_SIX), .val (.ref s_IX), .val (.ref s_IX)] [(.ref r244)])) tq → Steps p.tables e below (s₁.setTop (entryFrame m #[(.int p1)] maxLocals)) tq := fun tq kq => pre242 tq (st243.trans kq)
      have hr_r244 : r244 = s_IX := by rcases hq243 with ⟨q1, rfl⟩ | ⟨q1, q2, rfl⟩ | ⟨q1, q2, rfl⟩ <;> first | rfl | exact absurd q1 (by assumption) | exact absurd q2 (by assumption) | exact absurd q1.symm (by assumption) | exact absurd q2.symm (by assumption) | exact absurd rfl q1 | exact absurd rfl q2
      have hr_r244_s := hr_r244.symm; subst hr_r244_s
      have pre246 : ∀ tq, Steps p.tables e below (T243.setTop (mkF m 102 #[.val (.int p1), .val (.ref b2), .val (.ref s_SIX), .val (.ref s_IX), .val (.ref s_IX)] [])) tq → Steps p.tables e below (s₁.setTop (entryFrame m #[(.int p1)] maxLocals)) tq := by
        refine fun tq kq => pre245 tq ?_
        show Steps p.tables e below (T243.setTop (mkF m 98 #[.val (.int p1), .val (.ref b2), .val (.ref s_SIX), .val (.ref s_IX), .val (.ref s_IX)] [(.ref s_IX)])) _
        refine XS.aloadN X243.here hx rfl (hb hby at_98) rfl rfl ?_
        show Steps p.tables e below (T243.setTop (mkF m 99 #[.val (.int p1), .val (.ref b2), .val (.ref s_SIX), .val (.ref s_IX), .val (.ref s_IX)] [(.ref s_IX), (.ref s_IX)])) _
        refine Jvm.RoadKit.acmp (g := (mkF m 99 #[.val (.int p1), .val (.ref b2), .val (.ref s_SIX), .val (.ref s_IX), .val (.ref s_IX)] [(.ref s_IX), (.ref s_IX)])) X243 hx rfl rfl rfl (pc0 := 99) (pc' := 102) (same := true) rfl (hb hby at_99) rfl (decide_eq_true rfl) (by decide) (by decide) ?_
        exact kq
      obtain ⟨fs, hr, hrun, hended, hW, hsame⟩ := X243.leave (v := some (.int (1 : Int32))) (fun h => by rw [Bd.returns] at h; cases h)
      refine ⟨_, _, pre246 _ ?_, hrun, hended, _, _, rfl, ?_, ⟨_, rfl⟩, hW, hsame.mono (by decide) (by decide)⟩
      · skip
        show Steps p.tables e below (T243.setTop (mkF m 102 #[.val (.int p1), .val (.ref b2), .val (.ref s_SIX), .val (.ref s_IX), .val (.ref s_IX)] [])) _
        refine XS.iconst X243.here hx rfl (hb hby at_102) ?_
        show Steps p.tables e below (T243.setTop (mkF m 103 #[.val (.int p1), .val (.ref b2), .val (.ref s_SIX), .val (.ref s_IX), .val (.ref s_IX)] [(.int (1 : Int32))])) _
        refine XS.goto X243.here hx rfl (pc0 := 103) (pc' := 107) rfl (hb hby at_103) (by decide) (by decide) ?_
        show Steps p.tables e below (T243.setTop (mkF m 107 #[.val (.int p1), .val (.ref b2), .val (.ref s_SIX), .val (.ref s_IX), .val (.ref s_IX)] [(.int (1 : Int32))])) _
        exact retN X243 hx (t := .boolean) Bd.returns (by simp) (hb hby at_107) hr
      · show Q0 Z p1 s_IS s_IX s_S s_SIX s_X h0 n0 _ T243.heap _
        rw [ehq243]
        exact ⟨rfl, N243⟩
    · skip
      have pre247 : ∀ tq, Steps p.tables e below (T239.setTop (mkF m 85 #[.val (.int p1), .val (.ref b2), .val (.ref s_SIX), .val (.ref s_IX), .val (.ref s_IX)] [])) tq → Steps p.tables e below (s₁.setTop (entryFrame m #[(.int p1)] maxLocals)) tq := by
        refine fun tq kq => pre240 tq ?_
        show Steps p.tables e below (T239.setTop (mkF m 82 #[.val (.int p1), .val (.ref b2), .val (.ref s_SIX), .val (.ref s_IX), .val (.ref s_IX)] [(.ref s_IS), (.ref s_IX)])) _
        refine Jvm.RoadKit.acmp (g := (mkF m 82 #[.val (.int p1), .val (.ref b2), .val (.ref s_SIX), .val (.ref s_IX), .val (.ref s_IX)] [(.ref s_IS), (.ref s_IX)])) X239 hx rfl rfl rfl (pc0 := 82) (pc' := 85) (same := false) rfl (hb hby at_82) rfl (decide_eq_false fun q => hc82 (Value.ref.inj q)) (by decide) (by decide) ?_
        exact kq
      have pre248 : ∀ tq, Steps p.tables e below (T239.setTop (mkF m 86 #[.val (.int p1), .val (.ref b2), .val (.ref s_SIX), .val (.ref s_IX), .val (.ref s_IX)] [(.ref s_IX)])) tq → Steps p.tables e below (s₁.setTop (entryFrame m #[(.int p1)] maxLocals)) tq := by
        refine fun tq kq => pre247 tq ?_
        show Steps p.tables e below (T239.setTop (mkF m 85 #[.val (.int p1), .val (.ref b2), .val (.ref s_SIX), .val (.ref s_IX), .val (.ref s_IX)] [])) _
        refine XS.aloadN X239.here hx rfl (hb hby at_85) rfl rfl ?_
        exact kq
      obtain ⟨T249, X249, e249, st249⟩ := getS2 X239 hx hZ hown (host := "") (Or.inl (hw _ (List.mem_of_getElem? (i := 6) rfl))) Via.refl e239 f116 (g := (mkF m 86 #[.val (.int p1), .val (.ref b2), .val (.ref s_SIX), .val (.ref s_IX), .val (.ref s_IX)] [(.ref s_IX)])) rfl (hb hby at_86)
      have pre250 : ∀ tq, Steps p.tables e below (T249.setTop (mkF m 89 #[.val (.int p1), .val (.ref b2), .val (.ref s_SIX), .val (.ref s_IX), .val (.ref s_IX)] [(.ref s_IX), (.ref s_IX)])) tq → Steps p.tables e below (s₁.setTop (entryFrame m #[(.int p1)] maxLocals)) tq := fun tq kq => pre248 tq (st249 _ kq)
      have pre251 : ∀ tq, Steps p.tables e below (T249.setTop (mkF m 94 #[.val (.int p1), .val (.ref b2), .val (.ref s_SIX), .val (.ref s_IX), .val (.ref s_IX)] [])) tq → Steps p.tables e below (s₁.setTop (entryFrame m #[(.int p1)] maxLocals)) tq := by
        refine fun tq kq => pre250 tq ?_
        show Steps p.tables e below (T249.setTop (mkF m 89 #[.val (.int p1), .val (.ref b2), .val (.ref s_SIX), .val (.ref s_IX), .val (.ref s_IX)] [(.ref s_IX), (.ref s_IX)])) _
        refine Jvm.RoadKit.acmp (g := (mkF m 89 #[.val (.int p1), .val (.ref b2), .val (.ref s_SIX), .val (.ref s_IX), .val (.ref s_IX)] [(.ref s_IX), (.ref s_IX)])) X249 hx rfl rfl rfl (pc0 := 89) (pc' := 94) (same := true) rfl (hb hby at_89) rfl (decide_eq_true rfl) (by decide) (by decide) ?_
        exact kq
      have pre252 : ∀ tq, Steps p.tables e below (T249.setTop (mkF m 95 #[.val (.int p1), .val (.ref b2), .val (.ref s_SIX), .val (.ref s_IX), .val (.ref s_IX)] [(.ref s_IX)])) tq → Steps p.tables e below (s₁.setTop (entryFrame m #[(.int p1)] maxLocals)) tq := by
        refine fun tq kq => pre251 tq ?_
        show Steps p.tables e below (T249.setTop (mkF m 94 #[.val (.int p1), .val (.ref b2), .val (.ref s_SIX), .val (.ref s_IX), .val (.ref s_IX)] [])) _
        refine XS.aloadN X249.here hx rfl (hb hby at_94) rfl rfl ?_
        exact kq
      have Z253 : n0 ≤ h112.size := (Nat.le_trans (Nat.le_trans (Nat.le_trans (Nat.le_trans (Nat.le_trans (Nat.le_trans Z0 E2.1) (Keep.of_wr W28).1) (Keep.of_wr W49).1) (Keep.of_wr W70).1) (Keep.of_wr W91).1) (Keep.of_wr W112).1)
      obtain ⟨cq253, kq253, q253a, q253b, q253c⟩ := isOf hZ e249 f117
      obtain ⟨_, _, ⟨T253, L253, k253, n253⟩, -, X253, ⟨Lc253, hQ253, l253, y253, z253⟩, st253⟩ := X249.virtualBack hx (y := (⟨"com/example/latchwork/latchwork/lock/LockMode", "intention", "()Lcom/example/latchwork/latchwork/lock/LockMode;"⟩ : MethodName)) (z := (⟨"com/example/latchwork/latchwork/lock/LockMode", "intention", "()Lcom/example/latchwork/latchwork/lock/LockMode;"⟩ : MethodName)) hown (mvT hZ (hw _ (List.mem_of_getElem? (i := 15) rfl))) (mvT hZ (hw _ (List.mem_of_getElem? (i := 16) rfl))) (notFace_of_selects (args := #[]) (mvT hZ (hw _ (List.mem_of_getElem? (i := 18) rfl)))) (mvT hZ (hw _ (List.mem_of_getElem? (i := 18) rfl))) (mvT hZ (hw _ (List.mem_of_getElem? (i := 17) rfl))) (by decide) (backOf (W := 0) (rm1 l Z a0 hw [] s_IX s_IS s_S s_IX h112 n0 Z253 f114 f118 f116) hZ (hw _ (List.mem_of_getElem? (i := 19) rfl)) (hw _ (List.mem_of_getElem? (i := 3) rfl)) (by decide) (by decide)) q253a q253c (g := (mkF m 95 #[.val (.int p1), .val (.ref b2), .val (.ref s_SIX), .val (.ref s_IX), .val (.ref s_IX)] [(.ref s_IX)])) rfl (by rw [hml]; rfl) (Steps.refl _) (argsL := []) (rest := []) (lenOf pd0_0 rfl) rfl (by show 2 * 0 + _ ≤ _; exact Nat.le_of_eq rfl) (hb hby at_95) (fun _ _ => ⟨rfl, e249, (by decide : (((0 + 1) + 0) + 0) + 0 ≤ _), (by decide : (((0 + 5) + 0) + 0) + 0 ≤ _)⟩)
      dsimp only [Pt.U, Pt.locs, Pt.cells, Pt.slots] at X253 l253 y253 z253 st253 hQ253
      subst l253 y253 z253
      obtain ⟨r254, rfl, Nq253, ehq253, hq253⟩ := hQ253
      have N253 := Fr.app N231 Nq253
      have pre255 : ∀ tq, Steps p.tables e below (T253.setTop (mkF m 98 #[.val (.int p1), .val (.ref b2), .val (.ref s_SIX), .val (.ref s_IX), .val (.ref s_IX)] [(.ref r254)])) tq → Steps p.tables e below (s₁.setTop (entryFrame m #[(.int p1)] maxLocals)) tq := fun tq kq => pre252 tq (st253.trans kq)
      have hr_r254 : r254 = s_IX := by rcases hq253 with ⟨q1, rfl⟩ | ⟨q1, q2, rfl⟩ | ⟨q1, q2, rfl⟩ <;> first | rfl | exact absurd q1 (by assumption) | exact absurd q2 (by assumption) | exact absurd q1.symm (by assumption) | exact absurd q2.symm (by assumption) | exact absurd rfl q1 | exact absurd rfl q2
      have hr_r254_s := hr_r254.symm; subst hr_r254_s
      have pre256 : ∀ tq, Steps p.tables e below (T253.setTop (mkF m 102 #[.val (.int p1), .val (.ref b2), .val (.ref s_SIX), .val (.ref s_IX), .val (.ref s_IX)] [])) tq → Steps p.tables e below (s₁.setTop (entryFrame m #[(.int p1)] maxLocals)) tq := by
        refine fun tq kq => pre255 tq ?_
        show Steps p.tables e below (T253.setTop (mkF m 98 #[.val (.int p1), .val (.ref b2), .val (.ref s_SIX), .val (.ref s_IX), .val (.ref s_IX)] [(.ref s_IX)])) _
        refine XS.aloadN X253.here hx rfl (hb hby at_98) rfl rfl ?_
        show Steps p.tables e below (T253.setTop (mkF m 99 #[.val (.int p1), .val (.ref b2), .val (.ref s_SIX), .val (.ref s_IX), .val (.ref s_IX)] [(.ref s_IX), (.ref s_IX)])) _
        refine Jvm.RoadKit.acmp (g := (mkF m 99 #[.val (.int p1), .val (.ref b2), .val (.ref s_SIX), .val (.ref s_IX), .val (.ref s_IX)] [(.ref s_IX), (.ref s_IX)])) X253 hx rfl rfl rfl (pc0 := 99) (pc' := 102) (same := true) rfl (hb hby at_99) rfl (decide_eq_true rfl) (by decide) (by decide) ?_
        exact kq
      obtain ⟨fs, hr, hrun, hended, hW, hsame⟩ := X253.leave (v := some (.int (1 : Int32))) (fun h => by rw [Bd.returns] at h; cases h)
      refine ⟨_, _, pre256 _ ?_, hrun, hended, _, _, rfl, ?_, ⟨_, rfl⟩, hW, hsame.mono (by decide) (by decide)⟩
      · skip
        show Steps p.tables e below (T253.setTop (mkF m 102 #[.val (.int p1), .val (.ref b2), .val (.ref s_SIX), .val (.ref s_IX), .val (.ref s_IX)] [])) _
        refine XS.iconst X253.here hx rfl (hb hby at_102) ?_
        show Steps p.tables e below (T253.setTop (mkF m 103 #[.val (.int p1), .val (.ref b2), .val (.ref s_SIX), .val (.ref s_IX), .val (.ref s_IX)] [(.int (1 : Int32))])) _
        refine XS.goto X253.here hx rfl (pc0 := 103) (pc' := 107) rfl (hb hby at_103) (by decide) (by decide) ?_
        show Steps p.tables e below (T253.setTop (mkF m 107 #[.val (.int p1), .val (.ref b2), .val (.ref s_SIX), .val (.ref s_IX), .val (.ref s_IX)] [(.int (1 : Int32))])) _
        exact retN X253 hx (t := .boolean) Bd.returns (by simp) (hb hby at_107) hr
      · show Q0 Z p1 s_IS s_IX s_S s_SIX s_X h0 n0 _ T253.heap _
        rw [ehq253]
        exact ⟨rfl, N253⟩
  · skip
    subst hk
    have Vc257 := f129
    obtain ⟨cl257, Ar257, Aq257, As257, An257, Ah257, Ag257⟩ := Vc257
    have hin257 : ¬ ((4 : Int32) < 0 ∨ cl257.slots.size ≤ ((4 : Int32)).toNatClampNeg) := inb_of As257 ⟨by decide, by decide⟩
    have pre258 : ∀ tq, Steps p.tables e below (T112.setTop (mkF m 43 #[.val (.int p1), .val (.ref b2), .unset, .unset, .unset] [(.ref s_X)])) tq → Steps p.tables e below (s₁.setTop (entryFrame m #[(.int p1)] maxLocals)) tq := fun tq kq => pre131 tq (X112.aaload hx (j := (4 : Int32)) (v := (.ref s_X)) (by rw [e112]; exact Ar257.1) (State.isArrayOf_alike hZ.alike Ar257.2.1) rfl Ar257.2.2 hin257 (Has.at Ah257 hin257 rfl) (g := (mkF m 42 #[.val (.int p1), .val (.ref b2), .unset, .unset, .unset] [(.int (4 : Int32)), (.ref b2)])) rfl rfl (hb hby at_42) _ kq)
    have pre259 : ∀ tq, Steps p.tables e below (T112.setTop (mkF m 45 #[.val (.int p1), .val (.ref b2), .val (.ref s_X), .unset, .unset] [(.ref s_X)])) tq → Steps p.tables e below (s₁.setTop (entryFrame m #[(.int p1)] maxLocals)) tq := by
      refine fun tq kq => pre258 tq ?_
      show Steps p.tables e below (T112.setTop (mkF m 43 #[.val (.int p1), .val (.ref b2), .unset, .unset, .unset] [(.ref s_X)])) _
      refine XS.astoreN X112.here hx rfl (hb hby at_43) rfl rfl (l' := #[.val (.int p1), .val (.ref b2), .val (.ref s_X), .unset, .unset]) rfl ?_
      show Steps p.tables e below (T112.setTop (mkF m 44 #[.val (.int p1), .val (.ref b2), .val (.ref s_X), .unset, .unset] [])) _
      refine XS.aloadN X112.here hx rfl (hb hby at_44) rfl rfl ?_
      exact kq
    have Z260 : n0 ≤ h112.size := (Nat.le_trans (Nat.le_trans (Nat.le_trans (Nat.le_trans (Nat.le_trans (Nat.le_trans Z0 E2.1) (Keep.of_wr W28).1) (Keep.of_wr W49).1) (Keep.of_wr W70).1) (Keep.of_wr W91).1) (Keep.of_wr W112).1)
    obtain ⟨cq260, kq260, q260a, q260b, q260c⟩ := isOf hZ e112 f123
    obtain ⟨_, _, ⟨T260, L260, k260, n260⟩, -, X260, ⟨Lc260, hQ260, l260, y260, z260⟩, st260⟩ := X112.virtualBack hx (y := (⟨"com/example/latchwork/latchwork/lock/LockMode", "intention", "()Lcom/example/latchwork/latchwork/lock/LockMode;"⟩ : MethodName)) (z := (⟨"com/example/latchwork/latchwork/lock/LockMode", "intention", "()Lcom/example/latchwork/latchwork/lock/LockMode;"⟩ : MethodName)) hown (mvT hZ (hw _ (List.mem_of_getElem? (i := 15) rfl))) (mvT hZ (hw _ (List.mem_of_getElem? (i := 16) rfl))) (notFace_of_selects (args := #[]) (mvT hZ (hw _ (List.mem_of_getElem? (i := 18) rfl)))) (mvT hZ (hw _ (List.mem_of_getElem? (i := 18) rfl))) (mvT hZ (hw _ (List.mem_of_getElem? (i := 17) rfl))) (by decide) (backOf (W := 0) (rm1 l Z a0 hw [] s_X s_IS s_S s_IX h112 n0 Z260 f114 f118 f116) hZ (hw _ (List.mem_of_getElem? (i := 19) rfl)) (hw _ (List.mem_of_getElem? (i := 3) rfl)) (by decide) (by decide)) q260a q260c (g := (mkF m 45 #[.val (.int p1), .val (.ref b2), .val (.ref s_X), .unset, .unset] [(.ref s_X)])) rfl (by rw [hml]; rfl) (Steps.refl _) (argsL := []) (rest := []) (lenOf pd0_0 rfl) rfl (by show 2 * 0 + _ ≤ _; exact Nat.le_of_eq rfl) (hb hby at_45) (fun _ _ => ⟨rfl, e112, (by decide : (0 + 1) + 0 ≤ _), (by decide : (0 + 5) + 0 ≤ _)⟩)
    dsimp only [Pt.U, Pt.locs, Pt.cells, Pt.slots] at X260 l260 y260 z260 st260 hQ260
    subst l260 y260 z260
    obtain ⟨r261, rfl, Nq260, ehq260, hq260⟩ := hQ260
    have N260 := Fr.app N112 Nq260
    have pre262 : ∀ tq, Steps p.tables e below (T260.setTop (mkF m 48 #[.val (.int p1), .val (.ref b2), .val (.ref s_X), .unset, .unset] [(.ref r261)])) tq → Steps p.tables e below (s₁.setTop (entryFrame m #[(.int p1)] maxLocals)) tq := fun tq kq => pre259 tq (st260.trans kq)
    have hr_r261 : r261 = s_IX := by rcases hq260 with ⟨q1, rfl⟩ | ⟨q1, q2, rfl⟩ | ⟨q1, q2, rfl⟩ <;> first | rfl | exact absurd q1 (by assumption) | exact absurd q2 (by assumption) | exact absurd q1.symm (by assumption) | exact absurd q2.symm (by assumption) | exact absurd rfl q1 | exact absurd rfl q2
    have hr_r261_s := hr_r261.symm; subst hr_r261_s
    have pre263 : ∀ tq, Steps p.tables e below (T260.setTop (mkF m 49 #[.val (.int p1), .val (.ref b2), .val (.ref s_X), .val (.ref s_IX), .unset] [])) tq → Steps p.tables e below (s₁.setTop (entryFrame m #[(.int p1)] maxLocals)) tq := by
      refine fun tq kq => pre262 tq ?_
      show Steps p.tables e below (T260.setTop (mkF m 48 #[.val (.int p1), .val (.ref b2), .val (.ref s_X), .unset, .unset] [(.ref s_IX)])) _
      refine XS.astoreN X260.here hx rfl (hb hby at_48) rfl rfl (l' := #[.val (.int p1), .val (.ref b2), .val (.ref s_X), .val (.ref s_IX), .unset]) rfl ?_
      exact kq
    obtain ⟨T264, X264, e264, st264⟩ := getS2 X260 hx hZ hown (host := "") (Or.inl (hw _ (List.mem_of_getElem? (i := 8) rfl))) Via.refl ehq260 f118 (g := (mkF m 49 #[.val (.int p1), .val (.ref b2), .val (.ref s_X), .val (.ref s_IX), .unset] [])) rfl (hb hby at_49)
    have pre265 : ∀ tq, Steps p.tables e below (T264.setTop (mkF m 52 #[.val (.int p1), .val (.ref b2), .val (.ref s_X), .val (.ref s_IX), .unset] [(.ref s_S)])) tq → Steps p.tables e below (s₁.setTop (entryFrame m #[(.int p1)] maxLocals)) tq := fun tq kq => pre263 tq (st264 _ kq)
    have pre266 : ∀ tq, Steps p.tables e below (T264.setTop (mkF m 53 #[.val (.int p1), .val (.ref b2), .val (.ref s_X), .val (.ref s_IX), .unset] [(.ref s_X), (.ref s_S)])) tq → Steps p.tables e below (s₁.setTop (entryFrame m #[(.int p1)] maxLocals)) tq := by
      refine fun tq kq => pre265 tq ?_
      show Steps p.tables e below (T264.setTop (mkF m 52 #[.val (.int p1), .val (.ref b2), .val (.ref s_X), .val (.ref s_IX), .unset] [(.ref s_S)])) _
      refine XS.aloadN X264.here hx rfl (hb hby at_52) rfl rfl ?_
      exact kq
    have Z267 : n0 ≤ h112.size := (Nat.le_trans (Nat.le_trans (Nat.le_trans (Nat.le_trans (Nat.le_trans (Nat.le_trans Z0 E2.1) (Keep.of_wr W28).1) (Keep.of_wr W49).1) (Keep.of_wr W70).1) (Keep.of_wr W91).1) (Keep.of_wr W112).1)
    obtain ⟨cq267, kq267, q267a, q267b, q267c⟩ := isOf hZ e264 f119
    obtain ⟨_, _, ⟨T267, L267, k267, n267⟩, -, X267, ⟨Lc267, hQ267, l267, y267, z267⟩, st267⟩ := X264.virtualBack hx (y := (⟨"com/example/latchwork/latchwork/lock/LockMode", "covers", "(Lcom/example/latchwork/latchwork/lock/LockMode;)Z"⟩ : MethodName)) (z := (⟨"com/example/latchwork/latchwork/lock/LockMode", "covers", "(Lcom/example/latchwork/latchwork/lock/LockMode;)Z"⟩ : MethodName)) hown (mvT hZ (hw _ (List.mem_of_getElem? (i := 21) rfl))) (mvT hZ (hw _ (List.mem_of_getElem? (i := 22) rfl))) (notFace_of_selects (args := #[]) (mvT hZ (hw _ (List.mem_of_getElem? (i := 24) rfl)))) (mvT hZ (hw _ (List.mem_of_getElem? (i := 24) rfl))) (mvT hZ (hw _ (List.mem_of_getElem? (i := 23) rfl))) (by decide) (backOf (W := 0) (rm2 l Z a0 hw [] s_S s_X s_IS h112 n0 Z267 f114 f119 f124) hZ (hw _ (List.mem_of_getElem? (i := 25) rfl)) (hw _ (List.mem_of_getElem? (i := 3) rfl)) (by decide) (by decide)) q267a q267c (g := (mkF m 53 #[.val (.int p1), .val (.ref b2), .val (.ref s_X), .val (.ref s_IX), .unset] [(.ref s_X), (.ref s_S)])) rfl (by rw [hml]; rfl) (Steps.refl _) (argsL := [(.ref s_X)]) (rest := []) (lenOf pd0_1 rfl) rfl (by show 2 * 0 + _ ≤ _; exact Nat.le_of_eq rfl) (hb hby at_53) (fun _ _ => ⟨rfl, e264, (by decide : ((0 + 1) + 0) + 0 ≤ _), (by decide : ((0 + 5) + 0) + 0 ≤ _)⟩)
    dsimp only [Pt.U, Pt.locs, Pt.cells, Pt.slots] at X267 l267 y267 z267 st267 hQ267
    subst l267 y267 z267
    obtain ⟨r268, rfl, Nq267, ehq267, hq267⟩ := hQ267
    have N267 := Fr.app N260 Nq267
    have pre269 : ∀ tq, Steps p.tables e below (T267.setTop (mkF m 56 #[.val (.int p1), .val (.ref b2), .val (.ref s_X), .val (.ref s_IX), .unset] [(.int r268)])) tq → Steps p.tables e below (s₁.setTop (entryFrame m #[(.int p1)] maxLocals)) tq := fun tq kq => pre266 tq (st267.trans kq)
    have hr_r268 : r268 = (0 : Int32) := by rcases hq267 with ⟨q1, rfl⟩ | ⟨q1, q2, rfl⟩ | ⟨q1, q2, rfl⟩ <;> first | rfl | exact absurd q1 (by assumption) | exact absurd q2 (by assumption) | exact absurd q1.symm (by assumption) | exact absurd q2.symm (by assumption) | exact absurd rfl q1 | exact absurd rfl q2
    subst hr_r268
    have pre270 : ∀ tq, Steps p.tables e below (T267.setTop (mkF m 65 #[.val (.int p1), .val (.ref b2), .val (.ref s_X), .val (.ref s_IX), .unset] [])) tq → Steps p.tables e below (s₁.setTop (entryFrame m #[(.int p1)] maxLocals)) tq := by
      refine fun tq kq => pre269 tq ?_
      show Steps p.tables e below (T267.setTop (mkF m 56 #[.val (.int p1), .val (.ref b2), .val (.ref s_X), .val (.ref s_IX), .unset] [(.int (0 : Int32))])) _
      refine XS.ifYes X267.here hx rfl (pc0 := 56) (pc' := 65) rfl (hb hby at_56) rfl ((if0 _ _).trans (teq (by decide : (0 : Int32) = (0 : Int32))).1) (by decide) (by decide) ?_
      exact kq
    obtain ⟨T271, X271, e271, st271⟩ := getS2 X267 hx hZ hown (host := "") (Or.inl (hw _ (List.mem_of_getElem? (i := 6) rfl))) Via.refl ehq267 f116 (g := (mkF m 65 #[.val (.int p1), .val (.ref b2), .val (.ref s_X), .val (.ref s_IX), .unset] [])) rfl (hb hby at_65)
    have pre272 : ∀ tq, Steps p.tables e below (T271.setTop (mkF m 68 #[.val (.int p1), .val (.ref b2), .val (.ref s_X), .val (.ref s_IX), .unset] [(.ref s_IX)])) tq → Steps p.tables e below (s₁.setTop (entryFrame m #[(.int p1)] maxLocals)) tq := fun tq kq => pre270 tq (st271 _ kq)
    have pre273 : ∀ tq, Steps p.tables e below (T271.setTop (mkF m 78 #[.val (.int p1), .val (.ref b2), .val (.ref s_X), .val (.ref s_IX), .val (.ref s_IX)] [])) tq → Steps p.tables e below (s₁.setTop (entryFrame m #[(.int p1)] maxLocals)) tq := by
      refine fun tq kq => pre272 tq ?_
      show Steps p.tables e below (T271.setTop (mkF m 68 #[.val (.int p1), .val (.ref b2), .val (.ref s_X), .val (.ref s_IX), .unset] [(.ref s_IX)])) _
      refine XS.astore X271.here hx rfl (hb hby at_68) rfl rfl (l' := #[.val (.int p1), .val (.ref b2), .val (.ref s_X), .val (.ref s_IX), .val (.ref s_IX)]) rfl ?_
      show Steps p.tables e below (T271.setTop (mkF m 70 #[.val (.int p1), .val (.ref b2), .val (.ref s_X), .val (.ref s_IX), .val (.ref s_IX)] [])) _
      refine XS.aloadN X271.here hx rfl (hb hby at_70) rfl rfl ?_
      show Steps p.tables e below (T271.setTop (mkF m 71 #[.val (.int p1), .val (.ref b2), .val (.ref s_X), .val (.ref s_IX), .val (.ref s_IX)] [(.ref s_IX)])) _
      refine XS.aload X271.here hx rfl (hb hby at_71) rfl rfl ?_
      show Steps p.tables e below (T271.setTop (mkF m 73 #[.val (.int p1), .val (.ref b2), .val (.ref s_X), .val (.ref s_IX), .val (.ref s_IX)] [(.ref s_IX), (.ref s_IX)])) _
      refine Jvm.RoadKit.acmp (g := (mkF m 73 #[.val (.int p1), .val (.ref b2), .val (.ref s_X), .val (.ref s_IX), .val (.ref s_IX)] [(.ref s_IX), (.ref s_IX)])) X271 hx rfl rfl rfl (pc0 := 73) (pc' := 78) (same := true) rfl (hb hby at_73) rfl (decide_eq_true rfl) (by decide) (by decide) ?_
      exact kq
    have pre274 : ∀ tq, Steps p.tables e below (T271.setTop (mkF m 79 #[.val (.int p1), .val (.ref b2), .val (.ref s_X), .val (.ref s_IX), .val (.ref s_IX)] [(.ref s_IX)])) tq → Steps p.tables e below (s₁.setTop (entryFrame m #[(.int p1)] maxLocals)) tq := by
      refine fun tq kq => pre273 tq ?_
      show Steps p.tables e below (T271.setTop (mkF m 78 #[.val (.int p1), .val (.ref b2), .val (.ref s_X), .val (.ref s_IX), .val (.ref s_IX)] [])) _
      refine XS.aloadN X271.here hx rfl (hb hby at_78) rfl rfl ?_
      exact kq
    obtain ⟨T275, X275, e275, st275⟩ := getS2 X271 hx hZ hown (host := "") (Or.inl (hw _ (List.mem_of_getElem? (i := 2) rfl))) Via.refl e271 f114 (g := (mkF m 79 #[.val (.int p1), .val (.ref b2), .val (.ref s_X), .val (.ref s_IX), .val (.ref s_IX)] [(.ref s_IX)])) rfl (hb hby at_79)
    have pre276 : ∀ tq, Steps p.tables e below (T275.setTop (mkF m 82 #[.val (.int p1), .val (.ref b2), .val (.ref s_X), .val (.ref s_IX), .val (.ref s_IX)] [(.ref s_IS), (.ref s_IX)])) tq → Steps p.tables e below (s₁.setTop (entryFrame m #[(.int p1)] maxLocals)) tq := fun tq kq => pre274 tq (st275 _ kq)
    by_cases hc82 : s_IX = s_IS
    · skip
      have pre277 : ∀ tq, Steps p.tables e below (T275.setTop (mkF m 94 #[.val (.int p1), .val (.ref b2), .val (.ref s_X), .val (.ref s_IX), .val (.ref s_IX)] [])) tq → Steps p.tables e below (s₁.setTop (entryFrame m #[(.int p1)] maxLocals)) tq := by
        refine fun tq kq => pre276 tq ?_
        show Steps p.tables e below (T275.setTop (mkF m 82 #[.val (.int p1), .val (.ref b2), .val (.ref s_X), .val (.ref s_IX), .val (.ref s_IX)] [(.ref s_IS), (.ref s_IX)])) _
        refine Jvm.RoadKit.acmp (g := (mkF m 82 #[.val (.int p1), .val (.ref b2), .val (.ref s_X), .val (.ref s_IX), .val (.ref s_IX)] [(.ref s_IS), (.ref s_IX)])) X275 hx rfl rfl rfl (pc0 := 82) (pc' := 94) (same := true) rfl (hb hby at_82) rfl (decide_eq_true (congrArg Value.ref hc82)) (by decide) (by decide) ?_
        exact kq
      have pre278 : ∀ tq, Steps p.tables e below (T275.setTop (mkF m 95 #[.val (.int p1), .val (.ref b2), .val (.ref s_X), .val (.ref s_IX), .val (.ref s_IX)] [(.ref s_IX)])) tq → Steps p.tables e below (s₁.setTop (entryFrame m #[(.int p1)] maxLocals)) tq := by
        refine fun tq kq => pre277 tq ?_
        show Steps p.tables e below (T275.setTop (mkF m 94 #[.val (.int p1), .val (.ref b2), .val (.ref s_X), .val (.ref s_IX), .val (.ref s_IX)] [])) _
        refine XS.aloadN X275.here hx rfl (hb hby at_94) rfl rfl ?_
        exact kq
      have Z279 : n0 ≤ h112.size := (Nat.le_trans (Nat.le_trans (Nat.le_trans (Nat.le_trans (Nat.le_trans (Nat.le_trans Z0 E2.1) (Keep.of_wr W28).1) (Keep.of_wr W49).1) (Keep.of_wr W70).1) (Keep.of_wr W91).1) (Keep.of_wr W112).1)
      obtain ⟨cq279, kq279, q279a, q279b, q279c⟩ := isOf hZ e275 f117
      obtain ⟨_, _, ⟨T279, L279, k279, n279⟩, -, X279, ⟨Lc279, hQ279, l279, y279, z279⟩, st279⟩ := X275.virtualBack hx (y := (⟨"com/example/latchwork/latchwork/lock/LockMode", "intention", "()Lcom/example/latchwork/latchwork/lock/LockMode;"⟩ : MethodName)) (z := (⟨"com/example/latchwork/latchwork/lock/LockMode", "intention", "()Lcom/example/latchwork/latchwork/lock/LockMode;"⟩ : MethodName)) hown (mvT hZ (hw _ (List.mem_of_getElem? (i := 15) rfl))) (mvT hZ (hw _ (List.mem_of_getElem? (i := 16) rfl))) (notFace_of_selects (args := #[]) (mvT hZ (hw _ (List.mem_of_getElem? (i := 18) rfl)))) (mvT hZ (hw _ (List.mem_of_getElem? (i := 18) rfl))) (mvT hZ (hw _ (List.mem_of_getElem? (i := 17) rfl))) (by decide) (backOf (W := 0) (rm1 l Z a0 hw [] s_IX s_IS s_S s_IX h112 n0 Z279 f114 f118 f116) hZ (hw _ (List.mem_of_getElem? (i := 19) rfl)) (hw _ (List.mem_of_getElem? (i := 3) rfl)) (by decide) (by decide)) q279a q279c (g := (mkF m 95 #[.val (.int p1), .val (.ref b2), .val (.ref s_X), .val (.ref s_IX), .val (.ref s_IX)] [(.ref s_IX)])) rfl (by rw [hml]; rfl) (Steps.refl _) (argsL := []) (rest := []) (lenOf pd0_0 rfl) rfl (by show 2 * 0 + _ ≤ _; exact Nat.le_of_eq rfl) (hb hby at_95) (fun _ _ => ⟨rfl, e275, (by decide : (((0 + 1) + 0) + 0) + 0 ≤ _), (by decide : (((0 + 5) + 0) + 0) + 0 ≤ _)⟩)
      dsimp only [Pt.U, Pt.locs, Pt.cells, Pt.slots] at X279 l279 y279 z279 st279 hQ279
      subst l279 y279 z279
      obtain ⟨r280, rfl, Nq279, ehq279, hq279⟩ := hQ279
      have N279 := Fr.app N267 Nq279
      have pre281 : ∀ tq, Steps p.tables e below (T279.setTop (mkF m 98 #[.val (.int p1), .val (.ref b2), .val (.ref s_X), .val (.ref s_IX), .val (.ref s_IX)] [(.ref r280)])) tq → Steps p.tables e below (s₁.setTop (entryFrame m #[(.int p1)] maxLocals)) tq := fun tq kq => pre278 tq (st279.trans kq)
      have hr_r280 : r280 = s_IX := by rcases hq279 with ⟨q1, rfl⟩ | ⟨q1, q2, rfl⟩ | ⟨q1, q2, rfl⟩ <;> first | rfl | exact absurd q1 (by assumption) | exact absurd q2 (by assumption) | exact absurd q1.symm (by assumption) | exact absurd q2.symm (by assumption) | exact absurd rfl q1 | exact absurd rfl q2
      have hr_r280_s := hr_r280.symm; subst hr_r280_s
      have pre282 : ∀ tq, Steps p.tables e below (T279.setTop (mkF m 102 #[.val (.int p1), .val (.ref b2), .val (.ref s_X), .val (.ref s_IX), .val (.ref s_IX)] [])) tq → Steps p.tables e below (s₁.setTop (entryFrame m #[(.int p1)] maxLocals)) tq := by
        refine fun tq kq => pre281 tq ?_
        show Steps p.tables e below (T279.setTop (mkF m 98 #[.val (.int p1), .val (.ref b2), .val (.ref s_X), .val (.ref s_IX), .val (.ref s_IX)] [(.ref s_IX)])) _
        refine XS.aloadN X279.here hx rfl (hb hby at_98) rfl rfl ?_
        show Steps p.tables e below (T279.setTop (mkF m 99 #[.val (.int p1), .val (.ref b2), .val (.ref s_X), .val (.ref s_IX), .val (.ref s_IX)] [(.ref s_IX), (.ref s_IX)])) _
        refine Jvm.RoadKit.acmp (g := (mkF m 99 #[.val (.int p1), .val (.ref b2), .val (.ref s_X), .val (.ref s_IX), .val (.ref s_IX)] [(.ref s_IX), (.ref s_IX)])) X279 hx rfl rfl rfl (pc0 := 99) (pc' := 102) (same := true) rfl (hb hby at_99) rfl (decide_eq_true rfl) (by decide) (by decide) ?_
        exact kq
      obtain ⟨fs, hr, hrun, hended, hW, hsame⟩ := X279.leave (v := some (.int (1 : Int32))) (fun h => by rw [Bd.returns] at h; cases h)
      refine ⟨_, _, pre282 _ ?_, hrun, hended, _, _, rfl, ?_, ⟨_, rfl⟩, hW, hsame.mono (by decide) (by decide)⟩
      · skip
        show Steps p.tables e below (T279.setTop (mkF m 102 #[.val (.int p1), .val (.ref b2), .val (.ref s_X), .val (.ref s_IX), .val (.ref s_IX)] [])) _
        refine XS.iconst X279.here hx rfl (hb hby at_102) ?_
        show Steps p.tables e below (T279.setTop (mkF m 103 #[.val (.int p1), .val (.ref b2), .val (.ref s_X), .val (.ref s_IX), .val (.ref s_IX)] [(.int (1 : Int32))])) _
        refine XS.goto X279.here hx rfl (pc0 := 103) (pc' := 107) rfl (hb hby at_103) (by decide) (by decide) ?_
        show Steps p.tables e below (T279.setTop (mkF m 107 #[.val (.int p1), .val (.ref b2), .val (.ref s_X), .val (.ref s_IX), .val (.ref s_IX)] [(.int (1 : Int32))])) _
        exact retN X279 hx (t := .boolean) Bd.returns (by simp) (hb hby at_107) hr
      · show Q0 Z p1 s_IS s_IX s_S s_SIX s_X h0 n0 _ T279.heap _
        rw [ehq279]
        exact ⟨rfl, N279⟩
    · skip
      have pre283 : ∀ tq, Steps p.tables e below (T275.setTop (mkF m 85 #[.val (.int p1), .val (.ref b2), .val (.ref s_X), .val (.ref s_IX), .val (.ref s_IX)] [])) tq → Steps p.tables e below (s₁.setTop (entryFrame m #[(.int p1)] maxLocals)) tq := by
        refine fun tq kq => pre276 tq ?_
        show Steps p.tables e below (T275.setTop (mkF m 82 #[.val (.int p1), .val (.ref b2), .val (.ref s_X), .val (.ref s_IX), .val (.ref s_IX)] [(.ref s_IS), (.ref s_IX)])) _
        refine Jvm.RoadKit.acmp (g := (mkF m 82 #[.val (.int p1), .val (.ref b2), .val (.ref s_X), .val (.ref s_IX), .val (.ref s_IX)] [(.ref s_IS), (.ref s_IX)])) X275 hx rfl rfl rfl (pc0 := 82) (pc' := 85) (same := false) rfl (hb hby at_82) rfl (decide_eq_false fun q => hc82 (Value.ref.inj q)) (by decide) (by decide) ?_
        exact kq
      have pre284 : ∀ tq, Steps p.tables e below (T275.setTop (mkF m 86 #[.val (.int p1), .val (.ref b2), .val (.ref s_X), .val (.ref s_IX), .val (.ref s_IX)] [(.ref s_IX)])) tq → Steps p.tables e below (s₁.setTop (entryFrame m #[(.int p1)] maxLocals)) tq := by
        refine fun tq kq => pre283 tq ?_
        show Steps p.tables e below (T275.setTop (mkF m 85 #[.val (.int p1), .val (.ref b2), .val (.ref s_X), .val (.ref s_IX), .val (.ref s_IX)] [])) _
        refine XS.aloadN X275.here hx rfl (hb hby at_85) rfl rfl ?_
        exact kq
      obtain ⟨T285, X285, e285, st285⟩ := getS2 X275 hx hZ hown (host := "") (Or.inl (hw _ (List.mem_of_getElem? (i := 6) rfl))) Via.refl e275 f116 (g := (mkF m 86 #[.val (.int p1), .val (.ref b2), .val (.ref s_X), .val (.ref s_IX), .val (.ref s_IX)] [(.ref s_IX)])) rfl (hb hby at_86)
      have pre286 : ∀ tq, Steps p.tables e below (T285.setTop (mkF m 89 #[.val (.int p1), .val (.ref b2), .val (.ref s_X), .val (.ref s_IX), .val (.ref s_IX)] [(.ref s_IX), (.ref s_IX)])) tq → Steps p.tables e below (s₁.setTop (entryFrame m #[(.int p1)] maxLocals)) tq := fun tq kq => pre284 tq (st285 _ kq)
      have pre287 : ∀ tq, Steps p.tables e below (T285.setTop (mkF m 94 #[.val (.int p1), .val (.ref b2), .val (.ref s_X), .val (.ref s_IX), .val (.ref s_IX)] [])) tq → Steps p.tables e below (s₁.setTop (entryFrame m #[(.int p1)] maxLocals)) tq := by
        refine fun tq kq => pre286 tq ?_
        show Steps p.tables e below (T285.setTop (mkF m 89 #[.val (.int p1), .val (.ref b2), .val (.ref s_X), .val (.ref s_IX), .val (.ref s_IX)] [(.ref s_IX), (.ref s_IX)])) _
        refine Jvm.RoadKit.acmp (g := (mkF m 89 #[.val (.int p1), .val (.ref b2), .val (.ref s_X), .val (.ref s_IX), .val (.ref s_IX)] [(.ref s_IX), (.ref s_IX)])) X285 hx rfl rfl rfl (pc0 := 89) (pc' := 94) (same := true) rfl (hb hby at_89) rfl (decide_eq_true rfl) (by decide) (by decide) ?_
        exact kq
      have pre288 : ∀ tq, Steps p.tables e below (T285.setTop (mkF m 95 #[.val (.int p1), .val (.ref b2), .val (.ref s_X), .val (.ref s_IX), .val (.ref s_IX)] [(.ref s_IX)])) tq → Steps p.tables e below (s₁.setTop (entryFrame m #[(.int p1)] maxLocals)) tq := by
        refine fun tq kq => pre287 tq ?_
        show Steps p.tables e below (T285.setTop (mkF m 94 #[.val (.int p1), .val (.ref b2), .val (.ref s_X), .val (.ref s_IX), .val (.ref s_IX)] [])) _
        refine XS.aloadN X285.here hx rfl (hb hby at_94) rfl rfl ?_
        exact kq
      have Z289 : n0 ≤ h112.size := (Nat.le_trans (Nat.le_trans (Nat.le_trans (Nat.le_trans (Nat.le_trans (Nat.le_trans Z0 E2.1) (Keep.of_wr W28).1) (Keep.of_wr W49).1) (Keep.of_wr W70).1) (Keep.of_wr W91).1) (Keep.of_wr W112).1)
      obtain ⟨cq289, kq289, q289a, q289b, q289c⟩ := isOf hZ e285 f117
      obtain ⟨_, _, ⟨T289, L289, k289, n289⟩, -, X289, ⟨Lc289, hQ289, l289, y289, z289⟩, st289⟩ := X285.virtualBack hx (y := (⟨"com/example/latchwork/latchwork/lock/LockMode", "intention", "()Lcom/example/latchwork/latchwork/lock/LockMode;"⟩ : MethodName)) (z := (⟨"com/example/latchwork/latchwork/lock/LockMode", "intention", "()Lcom/example/latchwork/latchwork/lock/LockMode;"⟩ : MethodName)) hown (mvT hZ (hw _ (List.mem_of_getElem? (i := 15) rfl))) (mvT hZ (hw _ (List.mem_of_getElem? (i := 16) rfl))) (notFace_of_selects (args := #[]) (mvT hZ (hw _ (List.mem_of_getElem? (i := 18) rfl)))) (mvT hZ (hw _ (List.mem_of_getElem? (i := 18) rfl))) (mvT hZ (hw _ (List.mem_of_getElem? (i := 17) rfl))) (by decide) (backOf (W := 0) (rm1 l Z a0 hw [] s_IX s_IS s_S s_IX h112 n0 Z289 f114 f118 f116) hZ (hw _ (List.mem_of_getElem? (i := 19) rfl)) (hw _ (List.mem_of_getElem? (i := 3) rfl)) (by decide) (by decide)) q289a q289c (g := (mkF m 95 #[.val (.int p1), .val (.ref b2), .val (.ref s_X), .val (.ref s_IX), .val (.ref s_IX)] [(.ref s_IX)])) rfl (by rw [hml]; rfl) (Steps.refl _) (argsL := []) (rest := []) (lenOf pd0_0 rfl) rfl (by show 2 * 0 + _ ≤ _; exact Nat.le_of_eq rfl) (hb hby at_95) (fun _ _ => ⟨rfl, e285, (by decide : (((0 + 1) + 0) + 0) + 0 ≤ _), (by decide : (((0 + 5) + 0) + 0) + 0 ≤ _)⟩)
      dsimp only [Pt.U, Pt.locs, Pt.cells, Pt.slots] at X289 l289 y289 z289 st289 hQ289
      subst l289 y289 z289
      obtain ⟨r290, rfl, Nq289, ehq289, hq289⟩ := hQ289
      have N289 := Fr.app N267 Nq289
      have pre291 : ∀ tq, Steps p.tables e below (T289.setTop (mkF m 98 #[.val (.int p1), .val (.ref b2), .val (.ref s_X), .val (.ref s_IX), .val (.ref s_IX)] [(.ref r290)])) tq → Steps p.tables e below (s₁.setTop (entryFrame m #[(.int p1)] maxLocals)) tq := fun tq kq => pre288 tq (st289.trans kq)
      have hr_r290 : r290 = s_IX := by rcases hq289 with ⟨q1, rfl⟩ | ⟨q1, q2, rfl⟩ | ⟨q1, q2, rfl⟩ <;> first | rfl | exact absurd q1 (by assumption) | exact absurd q2 (by assumption) | exact absurd q1.symm (by assumption) | exact absurd q2.symm (by assumption) | exact absurd rfl q1 | exact absurd rfl q2
      have hr_r290_s := hr_r290.symm; subst hr_r290_s
      have pre292 : ∀ tq, Steps p.tables e below (T289.setTop (mkF m 102 #[.val (.int p1), .val (.ref b2), .val (.ref s_X), .val (.ref s_IX), .val (.ref s_IX)] [])) tq → Steps p.tables e below (s₁.setTop (entryFrame m #[(.int p1)] maxLocals)) tq := by
        refine fun tq kq => pre291 tq ?_
        show Steps p.tables e below (T289.setTop (mkF m 98 #[.val (.int p1), .val (.ref b2), .val (.ref s_X), .val (.ref s_IX), .val (.ref s_IX)] [(.ref s_IX)])) _
        refine XS.aloadN X289.here hx rfl (hb hby at_98) rfl rfl ?_
        show Steps p.tables e below (T289.setTop (mkF m 99 #[.val (.int p1), .val (.ref b2), .val (.ref s_X), .val (.ref s_IX), .val (.ref s_IX)] [(.ref s_IX), (.ref s_IX)])) _
        refine Jvm.RoadKit.acmp (g := (mkF m 99 #[.val (.int p1), .val (.ref b2), .val (.ref s_X), .val (.ref s_IX), .val (.ref s_IX)] [(.ref s_IX), (.ref s_IX)])) X289 hx rfl rfl rfl (pc0 := 99) (pc' := 102) (same := true) rfl (hb hby at_99) rfl (decide_eq_true rfl) (by decide) (by decide) ?_
        exact kq
      obtain ⟨fs, hr, hrun, hended, hW, hsame⟩ := X289.leave (v := some (.int (1 : Int32))) (fun h => by rw [Bd.returns] at h; cases h)
      refine ⟨_, _, pre292 _ ?_, hrun, hended, _, _, rfl, ?_, ⟨_, rfl⟩, hW, hsame.mono (by decide) (by decide)⟩
      · skip
        show Steps p.tables e below (T289.setTop (mkF m 102 #[.val (.int p1), .val (.ref b2), .val (.ref s_X), .val (.ref s_IX), .val (.ref s_IX)] [])) _
        refine XS.iconst X289.here hx rfl (hb hby at_102) ?_
        show Steps p.tables e below (T289.setTop (mkF m 103 #[.val (.int p1), .val (.ref b2), .val (.ref s_X), .val (.ref s_IX), .val (.ref s_IX)] [(.int (1 : Int32))])) _
        refine XS.goto X289.here hx rfl (pc0 := 103) (pc' := 107) rfl (hb hby at_103) (by decide) (by decide) ?_
        show Steps p.tables e below (T289.setTop (mkF m 107 #[.val (.int p1), .val (.ref b2), .val (.ref s_X), .val (.ref s_IX), .val (.ref s_IX)] [(.int (1 : Int32))])) _
        exact retN X289 hx (t := .boolean) Bd.returns (by simp) (hb hby at_107) hr
      · show Q0 Z p1 s_IS s_IX s_S s_SIX s_X h0 n0 _ T289.heap _
        rw [ehq289]
        exact ⟨rfl, N289⟩
set_option maxRecDepth 65536 in
set_option maxHeartbeats 40000000 in
theorem comes_1 {Post : Tables → Env → Array Value → State → Outcome → State → Prop} (hpost : ∀ tb e args s v u, (limb_1_1.after args s (.returned v) u = true ∧ limb_1_2.after args s (.returned v) u = true ∧ True) → FrameEnd s (.returned v) u (Jvm.fieldLocs frame_1_writes args s ++ Jvm.arrayLocs frame_1_arrays args s ++ Jvm.staticLocs frame_1_statics s) 16 128 → Post tb e args s (.returned v) u) :
    ArmFor flags0 classFile x code maxLocals ret World_1 tables_1 room_1 Calls_1 rest_1 Pre_1 Post := by
  intro l hfl _ _ p e ha hc hk s m args below hf hA hF happ hP
  obtain ⟨hcalls, hrest, hpre⟩ := hP
  obtain ⟨-, -, -, hnamed, -, -, -, hat⟩ := (Spec.applies_iff hf).mp happ
  obtain ⟨hg, hn⟩ := and_e (Cond.before_iff.mp (show (Jvm.Cond.and given_1 narrow_1).before args s = true from hpre))
  obtain ⟨k0, g0⟩ := and_e hg
  obtain ⟨w0, rfl⟩ : ∃ w0 : Value, args = #[w0] := by
    have hs : args.size = 1 := by simpa [Cond.value, given_1] using k0
    obtain ⟨L⟩ := args
    match L, hs with
    | [w0], _ => exact ⟨w0, rfl⟩
  have hw := fun d (hd : d ∈ tables_1) => atoms_spec (ws := Jvm.Cond.code x code maxLocals ret :: tables_1) hat d (List.mem_cons_of_mem _ hd)
  have hfit : Fit s := fun {y c} hc i hi => by
    obtain ⟨ha, rfl⟩ := Array.getElem?_eq_some_iff.mp hc
    have q := List.all_eq_true.mp ((Array.all_eq_true_iff_forall_mem.mp hF) _ (Array.getElem_mem ha)) i (List.mem_range.mpr hi)
    simpa [Array.getElem?_eq_getElem hi] using q
  obtain ⟨i0, ei0⟩ := is_v g0
  obtain rfl : w0 = (.int i0) := Option.some.inj ei0
  obtain ⟨m0, hn1⟩ := and_e hn
  obtain ⟨s_IS, x_IS⟩ := exa_v m0
  have E_s_IS := Exa.start x_IS m0
  have S_IS := Sta.start x_IS (Or.inr ⟨(hw _ (List.mem_of_getElem? (i := 3) rfl)), (hw _ (List.mem_of_getElem? (i := 4) rfl))⟩)
  obtain ⟨m1, hn2⟩ := and_e hn1
  obtain ⟨s_IX, x_IX⟩ := exa_v m1
  have E_s_IX := Exa.start x_IX m1
  have S_IX := Sta.start x_IX (Or.inr ⟨(hw _ (List.mem_of_getElem? (i := 3) rfl)), (hw _ (List.mem_of_getElem? (i := 7) rfl))⟩)
  obtain ⟨m2, hn3⟩ := and_e hn2
  obtain ⟨s_S, x_S⟩ := exa_v m2
  have E_s_S := Exa.start x_S m2
  have S_S := Sta.start x_S (Or.inr ⟨(hw _ (List.mem_of_getElem? (i := 3) rfl)), (hw _ (List.mem_of_getElem? (i := 9) rfl))⟩)
  obtain ⟨m3, hn4⟩ := and_e hn3
  obtain ⟨s_SIX, x_SIX⟩ := exa_v m3
  have E_s_SIX := Exa.start x_SIX m3
  have S_SIX := Sta.start x_SIX (Or.inr ⟨(hw _ (List.mem_of_getElem? (i := 3) rfl)), (hw _ (List.mem_of_getElem? (i := 11) rfl))⟩)
  obtain ⟨m4, hn5⟩ := and_e hn4
  obtain ⟨s_X, x_X⟩ := exa_v m4
  have E_s_X := Exa.start x_X m4
  have S_X := Sta.start x_X (Or.inr ⟨(hw _ (List.mem_of_getElem? (i := 3) rfl)), (hw _ (List.mem_of_getElem? (i := 13) rfl))⟩)
  obtain ⟨m5, hn6⟩ := and_e hn5
  have F_ordinal_s_S := Fld.start ((fld_at x_S).symm.trans (eqv_i (Term.int_eval _) m5))
  obtain ⟨m6, hn7⟩ := and_e hn6
  have F_ordinal_s_IS := Fld.start ((fld_at x_IS).symm.trans (eqv_i (Term.int_eval _) m6))
  obtain ⟨m7, hn8⟩ := and_e hn7
  have F_ordinal_s_SIX := Fld.start ((fld_at x_SIX).symm.trans (eqv_i (Term.int_eval _) m7))
  obtain ⟨m8, hn9⟩ := and_e hn8
  have F_ordinal_s_IX := Fld.start ((fld_at x_IX).symm.trans (eqv_i (Term.int_eval _) m8))
  have F_ordinal_s_X := Fld.start ((fld_at x_X).symm.trans (eqv_i (Term.int_eval _) hn9))
  have ne_0_1 : s_IS ≠ s_IX := own_fld_ne F_ordinal_s_IS F_ordinal_s_IX (by decide)
  have ne_0_2 : s_IS ≠ s_S := own_fld_ne F_ordinal_s_IS F_ordinal_s_S (by decide)
  have ne_0_3 : s_IS ≠ s_SIX := own_fld_ne F_ordinal_s_IS F_ordinal_s_SIX (by decide)
  have ne_0_4 : s_IS ≠ s_X := own_fld_ne F_ordinal_s_IS F_ordinal_s_X (by decide)
  have ne_1_2 : s_IX ≠ s_S := own_fld_ne F_ordinal_s_IX F_ordinal_s_S (by decide)
  have ne_1_3 : s_IX ≠ s_SIX := own_fld_ne F_ordinal_s_IX F_ordinal_s_SIX (by decide)
  have ne_1_4 : s_IX ≠ s_X := own_fld_ne F_ordinal_s_IX F_ordinal_s_X (by decide)
  have ne_2_3 : s_S ≠ s_SIX := own_fld_ne F_ordinal_s_S F_ordinal_s_SIX (by decide)
  have ne_2_4 : s_S ≠ s_X := own_fld_ne F_ordinal_s_S F_ordinal_s_X (by decide)
  have ne_3_4 : s_SIX ≠ s_X := own_fld_ne F_ordinal_s_SIX F_ordinal_s_X (by decide)
  obtain ⟨n, o, h1, h2, h3, _, L, rfl, ⟨rfl, N⟩, hq⟩ := rm0 l s _ hw tables_1 i0 s_IS s_IX s_S s_SIX s_X s.heap s.heap.size (Nat.le_refl _) S_IS E_s_IS S_IX E_s_IX S_S E_s_S S_SIX E_s_SIX S_X E_s_X F_ordinal_s_S F_ordinal_s_IS F_ordinal_s_SIX F_ordinal_s_IX F_ordinal_s_X ne_0_1 ne_0_2 ne_0_3 ne_0_4 ne_1_2 ne_1_3 ne_1_4 ne_2_3 ne_2_4 ne_3_4 p e ha hc hk s m _ below hf ((Spec.applies_iff_loose hf).mp happ).1 ⟨rfl, State.Warmed39.refl s, rfl⟩ trivial
  refine ⟨n, _, h1, h2, h3, hpost _ _ _ _ _ _ ⟨Cond.after_iff.mpr rfl, Cond.after_iff.mpr (eq_i res_at (Term.int_eval (1)) rfl), trivial⟩ ⟨hq.1, hq.2.1, (hq.2.2.sift fun y hy => Or.inr (N y hy)).mono (by decide) (by decide)⟩⟩
theorem main_1_1 : Claimed_1_1 := comes_1 fun _ _ _ _ _ _ h hF => ⟨h.1, hF⟩
theorem main_1_2 : Claimed_1_2 := comes_1 fun _ _ _ _ _ _ h hF => ⟨h.2.1, hF⟩
end Jvm.Pilot.@@N@@
namespace Jvm.Pilot.@@N@@
open Jvm Jvm.ClassFile Sem Op Lib Jvm.Free Jvm.Stand Jvm.Pilot.@@N@@.Jvm.D
/-! MADE BY PROGRAM (witnessworld.py) out of the Statement's table words and the real class files: 13 classes; the members and pool entries that the words name. The judged class is class 1, her method 1. -/
namespace start1
open Jvm.ClassFile
def u (s : String) : CpInfo := .utf8 (stringToUtf16 s)
/-- a pool by its gaps: so many unusable entries, then the entry; so many at the end -/
def gap : Nat → List CpInfo → List CpInfo
  | 0, r => r
  | n + 1, r => .unusable :: gap n r
def poolList (es : List (Nat × CpInfo)) (last : Nat) : List CpInfo := es.foldr (fun e r => gap e.1 (e.2 :: r)) (gap last [])
def pool (es : List (Nat × CpInfo)) (last : Nat) : Array CpInfo := ⟨poolList es last⟩
def fileOf (pool : Array CpInfo) (this : Nat) (attrs : Array Attribute := #[]) (ms : Array MethodInfo := #[]) (fl : Nat := 33) (sup : Nat := 0) (ifs : Array Nat := #[]) (fds : Array FieldInfo := #[]) : ClassFile where
  minorVersion := 0
  majorVersion := 65
  constantPool := pool
  accessFlags := fl
  thisClass := this
  superClass := sup
  interfaces := ifs
  fields := fds
  methods := ms
  attributes := attrs
def plain (name : String) (sup : Option ClassId) : Class where
  name := name
  kind := .ordinary
  loader := none
  accessFlags := 33
  super := sup
  interfaces := #[]
  cf := none
  fields := #[]
  methods := #[]
  instanceTypes := #[]
  staticTypes := #[]
  resolved := #[]
  callSites := []
  init := .initialized
  statics := none
  mirror := none

def pool0 : Array CpInfo := pool [(5, u "<init>"), (0, u "()V"), (1, .class_ 10), (1, u "java/lang/Object")] 113

def k0m0 : Method := { name := "<init>", desc := "()V", sig := { parameters := [], returnType := none }, accessFlags := 1, code := none }
/-- java/lang/Object -/
def k0 : Class := { plain "java/lang/Object" none with
  accessFlags := 33
  interfaces := #[]
  cf := some (fileOf pool0 8 #[] #[{ accessFlags := 1, nameIndex := 5, descriptorIndex := 6, attributes := #[] }] 33 0 #[] #[])
  fields := #[]
  methods := #[k0m0]
  instanceTypes := #[]
  staticTypes := #[]
  resolved := Array.replicate 124 none
  statics := none }

def pool1 : Array CpInfo := pool [(2, .class_ 4), (1, u "java/lang/Object"), (0, u "<init>"), (0, u "()V"), (0, .class_ 8), (0, u "com/example/latchwork/latchwork/lock/LockMode"), (0, .fieldref 7 10), (0, .nameAndType 11 12), (0, u "IS"), (0, u "Lcom/example/latchwork/latchwork/lock/LockMode;"), (0, .fieldref 7 14), (0, .nameAndType 15 12), (0, u "IX"), (0, .fieldref 7 17), (0, .nameAndType 18 12), (0, u "S"), (0, .fieldref 7 20), (0, .nameAndType 21 12), (0, u "SIX"), (0, .fieldref 7 23), (0, .nameAndType 24 12), (0, u "X"), (0, .integer 2147483647), (0, .methodref 7 27), (0, .nameAndType 28 29), (0, u "intention"), (0, u "()Lcom/example/latchwork/latchwork/lock/LockMode;"), (0, .methodref 7 31), (0, .nameAndType 32 33), (0, u "covers"), (0, u "(Lcom/example/latchwork/latchwork/lock/LockMode;)Z"), (0, .class_ 35), (0, u "com/example/latchwork/latchwork/lock/LockModeIntentionPinLaw"), (2, u "law"), (0, u "(I)Z")] 5

def k1m0 : Method := { name := "<init>", desc := "()V", sig := { parameters := [], returnType := none }, accessFlags := 1, code := none }
def k1c1 : Code := { maxStack := 4, maxLocals := 5, code := code, exceptionTable := #[], attributes := #[] }
def k1m1 : Method := { name := "law", desc := "(I)Z", sig := { parameters := [.int], returnType := some .boolean }, accessFlags := 9, code := some k1c1 }
/-- com/example/latchwork/latchwork/lock/LockModeIntentionPinLaw -/
def k1 : Class := { plain "com/example/latchwork/latchwork/lock/LockModeIntentionPinLaw" (some 0) with
  accessFlags := 49
  interfaces := #[]
  cf := some (fileOf pool1 34 #[] #[{ accessFlags := 1, nameIndex := 5, descriptorIndex := 6, attributes := #[] }, { accessFlags := 9, nameIndex := 38, descriptorIndex := 39, attributes := #[] }] 49 2 #[] #[])
  fields := #[]
  methods := #[k1m0, k1m1]
  instanceTypes := #[]
  staticTypes := #[]
  resolved := Array.replicate 45 none
  statics := none }

def pool2 : Array CpInfo := pool [(1, .class_ 2), (0, u "java/lang/constant/Constable"), (0, .class_ 4), (0, u "java/lang/Object")] 6

/-- java/lang/constant/Constable -/
def k2 : Class := { plain "java/lang/constant/Constable" (some 0) with
  accessFlags := 1537
  interfaces := #[]
  cf := some (fileOf pool2 1 #[] #[] 1537 3 #[] #[])
  fields := #[]
  methods := #[]
  instanceTypes := #[]
  staticTypes := #[]
  resolved := Array.replicate 11 none
  statics := none }

def pool3 : Array CpInfo := pool [(1, .class_ 2), (0, u "java/lang/Comparable"), (0, .class_ 4), (0, u "java/lang/Object")] 7

/-- java/lang/Comparable -/
def k3 : Class := { plain "java/lang/Comparable" (some 0) with
  accessFlags := 1537
  interfaces := #[]
  cf := some (fileOf pool3 1 #[] #[] 1537 3 #[] #[])
  fields := #[]
  methods := #[]
  instanceTypes := #[]
  staticTypes := #[]
  resolved := Array.replicate 12 none
  statics := none }

def pool4 : Array CpInfo := pool [(1, .class_ 2), (0, u "java/io/Serializable"), (0, .class_ 4), (0, u "java/lang/Object")] 2

/-- java/io/Serializable -/
def k4 : Class := { plain "java/io/Serializable" (some 0) with
  accessFlags := 1537
  interfaces := #[]
  cf := some (fileOf pool4 1 #[] #[] 1537 3 #[] #[])
  fields := #[]
  methods := #[]
  instanceTypes := #[]
  staticTypes := #[]
  resolved := Array.replicate 7 none
  statics := none }

def pool5 : Array CpInfo := pool [(2, .class_ 4), (1, u "java/lang/Enum"), (0, u "name"), (0, u "Ljava/lang/String;"), (0, .fieldref 2 8), (0, .nameAndType 9 10), (0, u "ordinal"), (0, u "I"), (1, .class_ 14), (1, u "java/lang/Object"), (4, u "hash"), (86, .class_ 108), (1, u "java/lang/Enum$EnumDesc"), (2, .class_ 112), (0, u "java/lang/constant/Constable"), (0, .class_ 114), (0, u "java/lang/Comparable"), (0, .class_ 116), (0, u "java/io/Serializable"), (9, u "()I")] 77

def k5c0 : Code := { maxStack := 1, maxLocals := 1, code := jdk_37_method_2_code, exceptionTable := #[], attributes := #[] }
def k5m0 : Method := { name := "ordinal", desc := "()I", sig := { parameters := [], returnType := some .int }, accessFlags := 17, code := some k5c0 }
/-- java/lang/Enum -/
def k5 : Class := { plain "java/lang/Enum" (some 0) with
  accessFlags := 1057
  interfaces := #[2, 3, 4]
  cf := some (fileOf pool5 2 #[.nestMembers #[106]] #[{ accessFlags := 17, nameIndex := 9, descriptorIndex := 126, attributes := #[] }] 1057 12 #[111, 113, 115] #[{ accessFlags := 18, nameIndex := 5, descriptorIndex := 6, attributes := #[] }, { accessFlags := 18, nameIndex := 9, descriptorIndex := 10, attributes := #[] }, { accessFlags := 2, nameIndex := 19, descriptorIndex := 10, attributes := #[] }])
  fields := #[{ name := "name", type := (.object "java/lang/String"), accessFlags := 18, slot := 0, constantValue := 0 }, { name := "ordinal", type := .int, accessFlags := 18, slot := 1, constantValue := 0 }, { name := "hash", type := .int, accessFlags := 2, slot := 2, constantValue := 0 }]
  methods := #[k5m0]
  instanceTypes := #[(.object "java/lang/String"), .int, .int]
  staticTypes := #[]
  resolved := Array.replicate 204 none
  statics := none }

def pool6 : Array CpInfo := pool [(1, .class_ 2), (0, u "com/example/latchwork/latchwork/lock/LockMode"), (0, .fieldref 1 4), (0, .nameAndType 5 6), (0, u "IS"), (0, u "Lcom/example/latchwork/latchwork/lock/LockMode;"), (0, .fieldref 1 8), (0, .nameAndType 9 6), (0, u "IX"), (0, .fieldref 1 11), (0, .nameAndType 12 6), (0, u "S"), (2, u "SIX"), (2, u "X"), (2, u "$VALUES"), (0, u "[Lcom/example/latchwork/latchwork/lock/LockMode;"), (6, .class_ 31), (1, u "java/lang/Enum"), (8, u "COMPATIBLE"), (0, u "[[Z"), (0, .methodref 1 43), (0, .nameAndType 44 45), (0, u "ordinal"), (0, u "()I"), (2, u "MODES"), (2, u "covers"), (0, u "(Lcom/example/latchwork/latchwork/lock/LockMode;)Z"), (25, u "intention"), (0, u "()Lcom/example/latchwork/latchwork/lock/LockMode;")] 4

def k6c0 : Code := { maxStack := 2, maxLocals := 3, code := prog_80_method_5_code, exceptionTable := #[], attributes := #[] }
def k6m0 : Method := { name := "covers", desc := "(Lcom/example/latchwork/latchwork/lock/LockMode;)Z", sig := { parameters := [(.object "com/example/latchwork/latchwork/lock/LockMode")], returnType := some .boolean }, accessFlags := 1, code := some k6c0 }
def k6c1 : Code := { maxStack := 2, maxLocals := 1, code := prog_80_method_7_code, exceptionTable := #[], attributes := #[] }
def k6m1 : Method := { name := "intention", desc := "()Lcom/example/latchwork/latchwork/lock/LockMode;", sig := { parameters := [], returnType := some (.object "com/example/latchwork/latchwork/lock/LockMode") }, accessFlags := 1, code := some k6c1 }
/-- com/example/latchwork/latchwork/lock/LockMode -/
def k6 : Class := { plain "com/example/latchwork/latchwork/lock/LockMode" (some 5) with
  accessFlags := 16433
  interfaces := #[]
  cf := some (fileOf pool6 1 #[] #[{ accessFlags := 1, nameIndex := 51, descriptorIndex := 52, attributes := #[] }, { accessFlags := 1, nameIndex := 78, descriptorIndex := 79, attributes := #[] }] 16433 29 #[] #[{ accessFlags := 16409, nameIndex := 5, descriptorIndex := 6, attributes := #[] }, { accessFlags := 16409, nameIndex := 9, descriptorIndex := 6, attributes := #[] }, { accessFlags := 16409, nameIndex := 12, descriptorIndex := 6, attributes := #[] }, { accessFlags := 16409, nameIndex := 15, descriptorIndex := 6, attributes := #[] }, { accessFlags := 16409, nameIndex := 18, descriptorIndex := 6, attributes := #[] }, { accessFlags := 26, nameIndex := 48, descriptorIndex := 22, attributes := #[] }, { accessFlags := 26, nameIndex := 40, descriptorIndex := 41, attributes := #[] }, { accessFlags := 4122, nameIndex := 21, descriptorIndex := 22, attributes := #[] }])
  fields := #[{ name := "IS", type := (.object "com/example/latchwork/latchwork/lock/LockMode"), accessFlags := 16409, slot := 0, constantValue := 0 }, { name := "IX", type := (.object "com/example/latchwork/latchwork/lock/LockMode"), accessFlags := 16409, slot := 1, constantValue := 0 }, { name := "S", type := (.object "com/example/latchwork/latchwork/lock/LockMode"), accessFlags := 16409, slot := 2, constantValue := 0 }, { name := "SIX", type := (.object "com/example/latchwork/latchwork/lock/LockMode"), accessFlags := 16409, slot := 3, constantValue := 0 }, { name := "X", type := (.object "com/example/latchwork/latchwork/lock/LockMode"), accessFlags := 16409, slot := 4, constantValue := 0 }, { name := "MODES", type := (.array (.object "com/example/latchwork/latchwork/lock/LockMode")), accessFlags := 26, slot := 5, constantValue := 0 }, { name := "COMPATIBLE", type := (.array (.array .boolean)), accessFlags := 26, slot := 6, constantValue := 0 }, { name := "$VALUES", type := (.array (.object "com/example/latchwork/latchwork/lock/LockMode")), accessFlags := 4122, slot := 7, constantValue := 0 }]
  methods := #[k6m0, k6m1]
  instanceTypes := #[(.object "java/lang/String"), .int, .int]
  staticTypes := #[(.object "com/example/latchwork/latchwork/lock/LockMode"), (.object "com/example/latchwork/latchwork/lock/LockMode"), (.object "com/example/latchwork/latchwork/lock/LockMode"), (.object "com/example/latchwork/latchwork/lock/LockMode"), (.object "com/example/latchwork/latchwork/lock/LockMode"), (.array (.object "com/example/latchwork/latchwork/lock/LockMode")), (.array (.array .boolean)), (.array (.object "com/example/latchwork/latchwork/lock/LockMode"))]
  resolved := Array.replicate 84 none
  statics := some 0 }

def pool7 : Array CpInfo := pool [(1, u "java/lang/Cloneable"), (0, .class_ 1), (0, u "java/lang/Object"), (0, .class_ 3)] 3

/-- java/lang/Cloneable -/
def k7 : Class := { plain "java/lang/Cloneable" (some 0) with
  accessFlags := 1537
  interfaces := #[]
  cf := some (fileOf pool7 2 #[] #[] 1537 4 #[] #[])
  fields := #[]
  methods := #[]
  instanceTypes := #[]
  staticTypes := #[]
  resolved := Array.replicate 8 none
  statics := none }

/-- the primitive byte -/
def k8 : Class := { plain "byte" none with kind := .primitive 'B', accessFlags := 0x411 }
/-- [B -/
def k9 : Class := { plain "[B" (some 0) with kind := .array 8 .byte, interfaces := #[7, 4], accessFlags := 1041 }

/-- the primitive int -/
def k10 : Class := { plain "int" none with kind := .primitive 'I', accessFlags := 0x411 }
/-- [I -/
def k11 : Class := { plain "[I" (some 0) with kind := .array 10 .int, interfaces := #[7, 4], accessFlags := 1041 }

/-- [Lcom/example/latchwork/latchwork/lock/LockMode; -/
def k12 : Class := { plain "[Lcom/example/latchwork/latchwork/lock/LockMode;" (some 0) with kind := .array 6 (.object "com/example/latchwork/latchwork/lock/LockMode"), interfaces := #[7, 4], accessFlags := 1041 }

def heap : Heap := #[{ cls := 6, slots := #[.ref 1, .ref 2, .ref 3, .ref 4, .ref 5, .null, .null, .null], vm := .statics 6 },
  { cls := 6, slots := #[.null, .int 0, .int 0], vm := .none },
  { cls := 6, slots := #[.null, .int 1, .int 0], vm := .none },
  { cls := 6, slots := #[.null, .int 2, .int 0], vm := .none },
  { cls := 6, slots := #[.null, .int 3, .int 0], vm := .none },
  { cls := 6, slots := #[.null, .int 4, .int 0], vm := .none }]
def classes : Array Class := #[k0, k1, k2, k3, k4, k5, k6, k7, k8, k9, k10, k11, k12]
def interned : List (Array UInt16 × Addr) := []
def slotsUsed : Nat := 23
def theMethod : MethodId := ⟨1, 1⟩
def args0 : Array Value := #[.int 3]
def aboutOver (below : List Frame) : State where
  vm := { classes := classes, interned := interned.toArray }
  heap := heap
  slotsUsed := slotsUsed
  threads := #[{ frames := .invoking theMethod args0 :: below }]
def below0 : List Frame := [.native { method := ⟨0, 0⟩, args := #[] }]
def about1 : State := aboutOver below0
def p0 : Program := .bare "" "" ""
def e0 : Env := launch0.env 0 0 0
theorem w_frames : about1.frames = Frame.invoking theMethod args0 :: below0 := rfl
set_option maxRecDepth 65536 in
theorem w_args : argsFit about1.vm theMethod args0 = true := by decide +kernel
set_option maxRecDepth 65536 in
theorem w_heap : heapFits about1 = true := by decide +kernel
set_option maxRecDepth 65536 in
theorem w_runnable : about1.curStatus? = some .runnable := by decide +kernel
set_option maxRecDepth 65536 in
theorem w_alone : about1.alone = true := by decide +kernel
set_option maxRecDepth 65536 in
theorem w_named : about1.methodNamed? x = some theMethod := by decide +kernel
set_option maxRecDepth 65536 in
theorem w_hears : about1.hears theMethod below0 = true := by decide +kernel
set_option maxRecDepth 65536 in
theorem w_ripe : about1.ripe theMethod args0 below0 = true := by decide +kernel
theorem w_running : about1.status = .running := rfl
set_option maxRecDepth 65536 in
theorem w_room : about1.hasRoom e0.platform room_1 = true :=
  launch0.hasRoom_least _ room_1 (by decide +kernel) (by decide +kernel) (by decide +kernel) (by decide +kernel) (by decide +kernel) (by decide +kernel)
theorem allAtoms_all (ts : List Jvm.Cond) (a : Array Jvm.Value) (st : Jvm.State) : (allAtoms ts).before a st = ts.all (fun c => c.before a st) := by
  induction ts with
  | nil => rfl
  | cons c t ih =>
    show (Jvm.Cond.and c (allAtoms t)).before a st = _
    rw [Jvm.Cond.before_and, ih, List.all_cons]
def words1 : List Jvm.Cond := Jvm.Cond.code x code maxLocals ret :: tables_1
/-- a 'code' word, met by the world's own term for the bytes: nothing is compared byte by byte -/
theorem code_word {y : MethodName} {bytes : ByteArray} {mx : Nat} {rt : Option FieldType} {a : Array Value} {s : State} {m : MethodId} {meth : Method} {c : Code} (h1 : s.methodNamed? y = some m) (h2 : s.vm.method? m = some meth) (h3 : meth.code = some c) (h4 : c.code = bytes)
    (h5 : (c.maxLocals == mx && c.exceptionTable.isEmpty && decide (c.maxStack ≤ mostOperands) && decide (meth.sig.returnType = rt) && !meth.locks && decide (parseMethodDescriptor y.desc = some meth.sig)) = true) : (Jvm.Cond.code y bytes mx rt).before a s = true := by
  simp only [Bool.and_eq_true, beq_iff_eq, Bool.not_eq_true', decide_eq_true_eq] at h5
  obtain ⟨⟨⟨⟨⟨g1, g2⟩, g3⟩, g4⟩, g5⟩, g6⟩ := h5
  simp [Cond.before, Cond.holds, Cond.value, h1, h2, h3, h4, g1, g2, g3, g4, g5, g6]
def isCode : Jvm.Cond → Bool
  | .code _ _ _ _ => true
  | _ => false
theorem all_split {L : List Jvm.Cond} {P : Jvm.Cond → Bool} (h1 : L.all (fun c => isCode c || P c) = true) (h2 : ∀ c ∈ L.filter isCode, P c = true) : L.all P = true := by
  refine List.all_eq_true.mpr fun c hc => ?_
  have h := List.all_eq_true.mp h1 c hc
  rcases Bool.eq_false_or_eq_true (isCode c) with hi | hi
  · exact h2 c (List.mem_filter.mpr ⟨hc, hi⟩)
  · simpa [hi] using h
set_option maxRecDepth 65536 in
theorem w_c0 : (Jvm.Cond.code x code maxLocals ret).before args0 about1 = true := code_word (m := ⟨1, 1⟩) (meth := k1m1) (c := k1c1) (by decide +kernel) rfl rfl rfl (by decide +kernel)
set_option maxRecDepth 65536 in
theorem w_c1 : (Jvm.Cond.code ({ cls := "com/example/latchwork/latchwork/lock/LockMode", name := "intention", desc := "()Lcom/example/latchwork/latchwork/lock/LockMode;" } : Jvm.MethodName) prog_80_method_7_code (1 : Nat) (Option.some (Jvm.ClassFile.FieldType.object "com/example/latchwork/latchwork/lock/LockMode"))).before args0 about1 = true := code_word (m := ⟨6, 1⟩) (meth := k6m1) (c := k6c1) (by decide +kernel) rfl rfl rfl (by decide +kernel)
set_option maxRecDepth 65536 in
theorem w_c2 : (Jvm.Cond.code ({ cls := "com/example/latchwork/latchwork/lock/LockMode", name := "covers", desc := "(Lcom/example/latchwork/latchwork/lock/LockMode;)Z" } : Jvm.MethodName) prog_80_method_5_code (3 : Nat) (Option.some Jvm.ClassFile.FieldType.boolean)).before args0 about1 = true := code_word (m := ⟨6, 0⟩) (meth := k6m0) (c := k6c0) (by decide +kernel) rfl rfl rfl (by decide +kernel)
set_option maxRecDepth 65536 in
theorem w_c3 : (Jvm.Cond.code ({ cls := "java/lang/Enum", name := "ordinal", desc := "()I" } : Jvm.MethodName) jdk_37_method_2_code (1 : Nat) (Option.some Jvm.ClassFile.FieldType.int)).before args0 about1 = true := code_word (m := ⟨5, 0⟩) (meth := k5m0) (c := k5c0) (by decide +kernel) rfl rfl rfl (by decide +kernel)
def codes1 : List Jvm.Cond := [Jvm.Cond.code x code maxLocals ret, Jvm.Cond.code ({ cls := "com/example/latchwork/latchwork/lock/LockMode", name := "intention", desc := "()Lcom/example/latchwork/latchwork/lock/LockMode;" } : Jvm.MethodName) prog_80_method_7_code (1 : Nat) (Option.some (Jvm.ClassFile.FieldType.object "com/example/latchwork/latchwork/lock/LockMode")), Jvm.Cond.code ({ cls := "com/example/latchwork/latchwork/lock/LockMode", name := "covers", desc := "(Lcom/example/latchwork/latchwork/lock/LockMode;)Z" } : Jvm.MethodName) prog_80_method_5_code (3 : Nat) (Option.some Jvm.ClassFile.FieldType.boolean), Jvm.Cond.code ({ cls := "java/lang/Enum", name := "ordinal", desc := "()I" } : Jvm.MethodName) jdk_37_method_2_code (1 : Nat) (Option.some Jvm.ClassFile.FieldType.int)]
set_option maxRecDepth 65536 in
theorem codes_eq : words1.filter isCode = codes1 := rfl
theorem w_codes : ∀ c ∈ words1.filter isCode, c.before args0 about1 = true := by
  rw [codes_eq]
  intro c hc
  simp only [codes1, List.mem_cons, List.not_mem_nil, or_false] at hc
  rcases hc with rfl | rfl | rfl | rfl
  · exact w_c0
  · exact w_c1
  · exact w_c2
  · exact w_c3
set_option maxRecDepth 65536 in
theorem w_t1 : (words1.take 24).all (fun c => isCode c || c.before args0 about1) = true := by decide +kernel
set_option maxRecDepth 65536 in
theorem w_t2 : (words1.drop 24).all (fun c => isCode c || c.before args0 about1) = true := by decide +kernel
theorem w_tables : (allAtoms (Jvm.Cond.code x code maxLocals ret :: tables_1)).before args0 about1 = true := by
  rw [allAtoms_all]
  show words1.all (fun c => c.before args0 about1) = true
  refine all_split ?_ w_codes
  rw [← List.take_append_drop 24 words1, List.all_append, w_t1, w_t2]
  rfl
set_option maxRecDepth 65536 in
theorem w_case : (Jvm.Cond.and given_1 narrow_1).before args0 about1 = true := by decide +kernel
theorem w_applies : (headSpec (Jvm.Cond.code x code maxLocals ret :: tables_1) room_1).applies x e0.platform about1 = true :=
  (Spec.applies_iff w_frames).mpr ⟨w_running, w_runnable, w_alone, w_named, w_hears, w_ripe, w_room, w_tables⟩
theorem atStart : AtStart classFile x code maxLocals ret World_1 tables_1 room_1 Calls_1 rest_1 Pre_1 launch0 p0 e0 about1 theMethod args0 below0 :=
  ⟨lists_1, trivial, launch0.admits_env _ _ _, launch0.least_env, fairChoices_fair.cas, fairChoices_fair.clock, w_frames, w_args, w_heap, w_applies, trivial, trivial, w_case⟩
end start1
theorem witness_1 : WitnessClaimed_1 := ⟨start1.p0, start1.e0, start1.about1, start1.theMethod, start1.args0, start1.below0, start1.atStart⟩
end Jvm.Pilot.@@N@@
