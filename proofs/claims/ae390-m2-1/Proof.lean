import JvmDerived
import JvmDerived.Pilot.@@N@@Statement
import JvmDerived.Pilot.@@N@@Code
set_option linter.unusedVariables false
set_option linter.unusedSimpArgs false
@@BLOCK:NumsL.lean.txt@@
namespace Jvm.RoadKit
open Sem ClassFile Op Lib Jvm.Stand Jvm.Free Jvm.LawKit
section New
variable {p : Program} {l : Launch} {e : Env} {R : Room} {s : State} {m : MethodId} {args : Array Value} {below : List Frame} {meth : Method} {c : Code} {T : State} {locs : List Loc} {cells slots : Nat}
theorem retI (X : Stand p l e R s m args below meth c T locs cells slots) (hx : p.tables.exec = Jvm.exec) {pc : Nat} {Ls : Array Slot} {z : Int32} {rest : List Value} (hret : meth.sig.returnType = some .int) (hd : decode c.code pc = .ok (.ireturn, 1)) {fs : List Frame}
    (hl : ∀ (f : JFrame) (acts : List Action), f.method = m → f.locked = none → f.entered = [] → (doReturn e (T.setTop f) acts (some (.int z))).1 = T.setFrames fs) : Steps p.tables e below (T.setTop (mkF m pc Ls (.int z :: rest))) (T.setFrames fs) := by
  have hm' : T.vm.method? m = some meth := X.method'
  have hn : narrow .int (.int z) = .int z := rfl
  show Steps p.tables e below (T.setTop { method := m, pc := pc, locals := Ls, stack := _ :: rest, locked := none }) _
  jvm_step X.here [X.here.top, hx, hd, hm', hret, hn]
  first | (intro acts; rw [hl _ acts rfl rfl rfl]) | rw [hl _ _ rfl rfl rfl]
  exact Steps.refl _
theorem retD (X : Stand p l e R s m args below meth c T locs cells slots) (hx : p.tables.exec = Jvm.exec) {pc : Nat} {Ls : Array Slot} {z : UInt64} {rest : List Value} (hret : meth.sig.returnType = some .double) (hd : decode c.code pc = .ok (.dreturn, 1)) {fs : List Frame}
    (hl : ∀ (f : JFrame) (acts : List Action), f.method = m → f.locked = none → f.entered = [] → (doReturn e (T.setTop f) acts (some (.double z))).1 = T.setFrames fs) : Steps p.tables e below (T.setTop (mkF m pc Ls (.double z :: rest))) (T.setFrames fs) := by
  have hm' : T.vm.method? m = some meth := X.method'
  show Steps p.tables e below (T.setTop { method := m, pc := pc, locals := Ls, stack := _ :: rest, locked := none }) _
  jvm_step X.here [X.here.top, hx, hd, hm', hret]
  first | (intro acts; rw [hl _ acts rfl rfl rfl]) | rw [hl _ _ rfl rfl rfl]
  exact Steps.refl _
end New
end Jvm.RoadKit
namespace Jvm.Pilot.@@N@@
open Jvm Jvm.ClassFile Sem Op Lib Jvm.Free Jvm.Stand Jvm.LawKit Jvm.RoadKit Bundle Jvm.Pilot.@@N@@.Jvm.D
theorem jtlt {x y : Int64} (h : x < y) : ifCond.holds .lt (lcmpW x y) = true ∧ ifCond.holds .ge (lcmpW x y) = false ∧ ifCond.holds .gt (lcmpW y x) = true ∧ ifCond.holds .le (lcmpW y x) = false := by
  have h1 : ¬ y < x := by rw [Int64.lt_iff_toInt_lt] at h ⊢; omega
  have h2 : ¬ x = y := by rintro rfl; exact h1 h
  have h3 : ¬ y = x := fun q => h2 q.symm
  simp [ifCond.holds, lcmpW, h, h1, h2, h3]
theorem jflt {x y : Int64} (h : ¬ x < y) : ifCond.holds .lt (lcmpW x y) = false ∧ ifCond.holds .ge (lcmpW x y) = true ∧ ifCond.holds .gt (lcmpW y x) = false ∧ ifCond.holds .le (lcmpW y x) = true := by
  by_cases h2 : x = y
  · subst h2; simp [ifCond.holds, lcmpW, h]
  · have h1 : y < x := by rw [Int64.lt_iff_toInt_lt] at h ⊢; rw [← Int64.toInt_inj] at h2; omega
    have h3 : ¬ y = x := fun q => h2 q.symm
    simp [ifCond.holds, lcmpW, h, h1, h2, h3]
theorem jteq {x y : Int64} (h : x = y) : ifCond.holds .eq (lcmpW x y) = true ∧ ifCond.holds .ne (lcmpW x y) = false := by
  subst h
  have h1 : ¬ x < x := by rw [Int64.lt_iff_toInt_lt]; omega
  simp [ifCond.holds, lcmpW, h1]
theorem jfeq {x y : Int64} (h : ¬ x = y) : ifCond.holds .eq (lcmpW x y) = false ∧ ifCond.holds .ne (lcmpW x y) = true := by
  by_cases h1 : y < x <;> simp [ifCond.holds, lcmpW, h, h1]
theorem own_sta_keep {Z : State} {h h' : Heap} {C n d : String} {v : Value} {ws : List Addr} (F : Sta Z h C n d v) (K : Keep h h' ws) (q : ∀ x ∈ ws, ∃ c : Cell, h[x]? = some c ∧ c.vm.isStatics = false) : Sta Z h' C n d v := by
  obtain ⟨cf, i, k, f, st, cell, h1, h2, h3, h4, h5, h6, h7⟩ := F
  refine ⟨cf, i, k, f, st, cell, h1, h2, h3, h4, K.2.1 st cell h5 (fun hm => ?_), h6, h7⟩
  obtain ⟨c, e1, e2⟩ := q st hm
  rw [h5] at e1; cases e1; rw [h6] at e2; cases e2
theorem own_nostat {Z : State} {h : Heap} {a : Addr} {C : String} (E : Exa Z h a C) : ∃ c : Cell, h[a]? = some c ∧ c.vm.isStatics = false := by
  obtain ⟨cell, k, h1, -, -, h4, -⟩ := E
  exact ⟨cell, h1, h4⟩

theorem own_mr (a m : Int32) (h : 1 ≤ m.toInt) : 0 ≤ ((a &&& (2147483647 : Int32)) - ((a &&& (2147483647 : Int32)) / m) * m).toInt ∧ ((a &&& (2147483647 : Int32)) - ((a &&& (2147483647 : Int32)) / m) * m).toInt < m.toInt := by
  have mk := Jvm.Kit.i32_mask a (2147483647 : Int32) (k := 31) (by decide) (by decide)
  have nn : 0 ≤ (a &&& (2147483647 : Int32)).toInt := by rw [mk]; omega
  rw [Jvm.LawKit.rem_toInt, Int.tmod_eq_emod_of_nonneg nn]
  exact ⟨Int.emod_nonneg _ (by omega), Int.emod_lt_of_pos _ (by omega)⟩

theorem own_11 {x : Int32} (h0 : 0 ≤ x.toInt) (h1 : x.toInt < 11) : x = (0 : Int32) ∨ x = (1 : Int32) ∨ x = (2 : Int32) ∨ x = (3 : Int32) ∨ x = (4 : Int32) ∨ x = (5 : Int32) ∨ x = (6 : Int32) ∨ x = (7 : Int32) ∨ x = (8 : Int32) ∨ x = (9 : Int32) ∨ x = (10 : Int32) := by
  simp only [← Int32.toInt_inj, Int32.reduceToInt]
  omega

/-! body 1 -/
theorem d1_0 : decode prog_22_method_5_code 0 = .ok (.aload_n 0, 1) := by decide +kernel
theorem d1_1 : decode prog_22_method_5_code 1 = .ok (.getfield 60, 3) := by decide +kernel
theorem d1_4 : decode prog_22_method_5_code 4 = .ok (.iconst 2, 1) := by decide +kernel
theorem d1_5 : decode prog_22_method_5_code 5 = .ok (.if_icmp .ne 7, 3) := by decide +kernel
theorem d1_8 : decode prog_22_method_5_code 8 = .ok (.iconst 1, 1) := by decide +kernel
theorem d1_9 : decode prog_22_method_5_code 9 = .ok (.goto 4, 3) := by decide +kernel
theorem d1_12 : decode prog_22_method_5_code 12 = .ok (.iconst 0, 1) := by decide +kernel
theorem d1_13 : decode prog_22_method_5_code 13 = .ok (.ireturn, 1) := by decide +kernel
theorem pn_1 : plainName "com/example/tidemark/tidemark/Expression$Operator" = true := by first | (simp [plainName, overriddenIn]; done) | decide +kernel
theorem ef_1 (m : MethodId) (a1 : Addr) : entryFrame m #[(.ref a1)] 1 = mkF m 0 #[.val (.ref a1)] [] := by first | (simp [entryFrame, mkF, argsToLocals, Value.category]; done) | rfl
def Q1 (Z : State) (a1 : Addr) (w1 : Int32) (h0 : Heap) (n0 : Nat) (v : Option Value) (h : Heap) (L : List Loc) : Prop := ∃ r : Int32, v = some (.int r) ∧ Fr n0 L ∧ h = h0 ∧ ((w1 = (2 : Int32) ∧ r = (1 : Int32)) ∨ (¬ (w1 = (2 : Int32)) ∧ r = (0 : Int32)))
set_option maxRecDepth 65536 in
set_option maxHeartbeats 40000000 in
theorem rm1 (l : Launch) (Z : State) (a0 : Array Value) (hw : ∀ d ∈ tables_1, d.before a0 Z = true) (ws : List Jvm.Cond) (a1 : Addr) (w1 : Int32) (h0 : Heap) (n0 : Nat) (Z0 : n0 ≤ h0.size) (F_level_a1 : Fld Z h0 a1 "com/example/tidemark/tidemark/Expression$Operator" "level" "I" (.int w1)) :
    MetFree l (⟨"com/example/tidemark/tidemark/Expression$Operator", "compares", "()Z"⟩ : MethodName) (head1 (Jvm.Cond.code (⟨"com/example/tidemark/tidemark/Expression$Operator", "compares", "()Z"⟩ : MethodName) prog_22_method_5_code 1 (some .boolean) :: ws) ({ frames := 0, cells := 0, slots := 0, locals := 0 } : Room)) (fun a U => a = #[(.ref a1)] ∧ Z.Warmed39 U.vm ∧ U.heap = h0) (fun _ _ _ _ _ => True) (fun _ U o U' => ∃ v L, o = .returned v ∧ Q1 Z a1 w1 h0 n0 v U'.heap L ∧ FrameEnd U o U' L ({ frames := 0, cells := 0, slots := 0, locals := 0 } : Room).cells ({ frames := 0, cells := 0, slots := 0, locals := 0 } : Room).slots) := by
  refine MetFree.of_bodySF (plainFor_of_name pn_1) hisR ?_
  intro p e s m args below meth c s₁ Bd hml0 hP hK
  obtain ⟨rfl, hZ, hh⟩ := hP
  have hx := Bd.exec
  have hby := Bd.bytes
  have hml : c.maxLocals = 1 := hml0
  have hown : s.vm.findClass "com/example/tidemark/tidemark/Expression$Operator" = some m.cls := findClass_of_methodNamed Bd.named
  have hnm := (name_of_methodNamed Bd.named Bd.method).1
  have X0 : Stand p l e ({ frames := 0, cells := 0, slots := 0, locals := 0 } : Room) s m #[(.ref a1)] below meth c s₁ [] 0 0 := Stand.of_body Bd
  have e0 : s₁.heap = h0 := by rw [← hh, Bd.state]; rfl
  have N0 := Fr.nil n0
  have pre0 : ∀ tq, Steps p.tables e below (s₁.setTop (mkF m 0 #[.val (.ref a1)] [])) tq → Steps p.tables e below (s₁.setTop (entryFrame m #[(.ref a1)] 1)) tq := fun tq kq => castTop (ef_1 m a1) kq
  have pre1 : ∀ tq, Steps p.tables e below (s₁.setTop (mkF m 1 #[.val (.ref a1)] [(.ref a1)])) tq → Steps p.tables e below (s₁.setTop (entryFrame m #[(.ref a1)] 1)) tq := by
    refine fun tq kq => pre0 tq ?_
    show Steps p.tables e below (s₁.setTop (mkF m 0 #[.val (.ref a1)] [])) _
    refine XS.aloadN X0.here hx rfl (hb hby d1_0) rfl rfl ?_
    exact kq
  obtain ⟨T2, X2, e2, st2⟩ := getF X0 hx hZ hown (host := "") (Or.inl (hw _ (List.mem_of_getElem? (i := 32) rfl))) Via.refl e0 F_level_a1 (g := (mkF m 1 #[.val (.ref a1)] [(.ref a1)])) rfl rfl (hb hby d1_1)
  have pre3 : ∀ tq, Steps p.tables e below (T2.setTop (mkF m 4 #[.val (.ref a1)] [(.int w1)])) tq → Steps p.tables e below (s₁.setTop (entryFrame m #[(.ref a1)] 1)) tq := fun tq kq => pre1 tq (st2 _ kq)
  have pre4 : ∀ tq, Steps p.tables e below (T2.setTop (mkF m 5 #[.val (.ref a1)] [(.int (2 : Int32)), (.int w1)])) tq → Steps p.tables e below (s₁.setTop (entryFrame m #[(.ref a1)] 1)) tq := by
    refine fun tq kq => pre3 tq ?_
    show Steps p.tables e below (T2.setTop (mkF m 4 #[.val (.ref a1)] [(.int w1)])) _
    refine XS.iconst X2.here hx rfl (hb hby d1_4) ?_
    exact kq
  by_cases hc5 : w1 = (2 : Int32)
  · skip
    have pre5 : ∀ tq, Steps p.tables e below (T2.setTop (mkF m 8 #[.val (.ref a1)] [])) tq → Steps p.tables e below (s₁.setTop (entryFrame m #[(.ref a1)] 1)) tq := by
      refine fun tq kq => pre4 tq ?_
      show Steps p.tables e below (T2.setTop (mkF m 5 #[.val (.ref a1)] [(.int (2 : Int32)), (.int w1)])) _
      refine XS.icmpNo X2.here hx rfl (hb hby d1_5) rfl (teq hc5).2 ?_
      exact kq
    obtain ⟨fs, hr, hrun, hended, hW, hsame⟩ := X2.leave (v := some (.int (1 : Int32))) (fun h => by rw [Bd.returns] at h; cases h)
    refine ⟨_, _, pre5 _ ?_, hrun, hended, _, _, rfl, ?_, ⟨_, rfl⟩, hW, hsame.mono (by decide) (by decide)⟩
    · skip
      show Steps p.tables e below (T2.setTop (mkF m 8 #[.val (.ref a1)] [])) _
      refine XS.iconst X2.here hx rfl (hb hby d1_8) ?_
      show Steps p.tables e below (T2.setTop (mkF m 9 #[.val (.ref a1)] [(.int (1 : Int32))])) _
      refine XS.goto X2.here hx rfl (pc0 := 9) (pc' := 13) rfl (hb hby d1_9) (by decide) (by decide) ?_
      show Steps p.tables e below (T2.setTop (mkF m 13 #[.val (.ref a1)] [(.int (1 : Int32))])) _
      exact retN X2 hx (t := .boolean) Bd.returns (by simp) (hb hby d1_13) hr
    · show Q1 Z a1 w1 h0 n0 _ T2.heap _
      rw [e2]
      exact ⟨(1 : Int32), rfl, N0, rfl, Or.inl (⟨hc5, rfl⟩)⟩
  · skip
    have pre6 : ∀ tq, Steps p.tables e below (T2.setTop (mkF m 12 #[.val (.ref a1)] [])) tq → Steps p.tables e below (s₁.setTop (entryFrame m #[(.ref a1)] 1)) tq := by
      refine fun tq kq => pre4 tq ?_
      show Steps p.tables e below (T2.setTop (mkF m 5 #[.val (.ref a1)] [(.int (2 : Int32)), (.int w1)])) _
      refine XS.icmpYes X2.here hx rfl (pc0 := 5) (pc' := 12) rfl (hb hby d1_5) rfl (feq hc5).2 (by decide) (by decide) ?_
      exact kq
    obtain ⟨fs, hr, hrun, hended, hW, hsame⟩ := X2.leave (v := some (.int (0 : Int32))) (fun h => by rw [Bd.returns] at h; cases h)
    refine ⟨_, _, pre6 _ ?_, hrun, hended, _, _, rfl, ?_, ⟨_, rfl⟩, hW, hsame.mono (by decide) (by decide)⟩
    · skip
      show Steps p.tables e below (T2.setTop (mkF m 12 #[.val (.ref a1)] [])) _
      refine XS.iconst X2.here hx rfl (hb hby d1_12) ?_
      show Steps p.tables e below (T2.setTop (mkF m 13 #[.val (.ref a1)] [(.int (0 : Int32))])) _
      exact retN X2 hx (t := .boolean) Bd.returns (by simp) (hb hby d1_13) hr
    · show Q1 Z a1 w1 h0 n0 _ T2.heap _
      rw [e2]
      exact ⟨(0 : Int32), rfl, N0, rfl, Or.inr (⟨hc5, rfl⟩)⟩
/-! body 0 -/
theorem pn_0 : plainName "com/example/tidemark/tidemark/OperatorComparesPinLaw" = true := by first | (simp [plainName, overriddenIn]; done) | decide +kernel
theorem pd0_0 : parseMethodDescriptor "()Z" = some ⟨[], some .boolean⟩ := by decide +kernel
theorem ef_0 (m : MethodId) (p1 : Int32) : entryFrame m #[(.int p1)] maxLocals = mkF m 0 #[.val (.int p1), .unset, .unset, .unset] [] := by first | (simp [entryFrame, mkF, argsToLocals, Value.category, maxLocals]; done) | rfl
def Q0 (Z : State) (p1 : Int32) (s_TIMES : Addr) (s_DIVIDE : Addr) (s_REMAINDER : Addr) (s_PLUS : Addr) (s_MINUS : Addr) (s_LESS : Addr) (s_LESS_OR_EQUAL : Addr) (s_GREATER : Addr) (s_GREATER_OR_EQUAL : Addr) (s_EQUAL : Addr) (s_NOT_EQUAL : Addr) (h0 : Heap) (n0 : Nat) (v : Option Value) (h : Heap) (L : List Loc) : Prop := v = some (.int 1) ∧ Fr n0 L
set_option maxRecDepth 65536 in
set_option maxHeartbeats 40000000 in
theorem rm0 (l : Launch) (Z : State) (a0 : Array Value) (hw : ∀ d ∈ tables_1, d.before a0 Z = true) (ws : List Jvm.Cond) (p1 : Int32) (s_TIMES : Addr) (s_DIVIDE : Addr) (s_REMAINDER : Addr) (s_PLUS : Addr) (s_MINUS : Addr) (s_LESS : Addr) (s_LESS_OR_EQUAL : Addr) (s_GREATER : Addr) (s_GREATER_OR_EQUAL : Addr) (s_EQUAL : Addr) (s_NOT_EQUAL : Addr) (h0 : Heap) (n0 : Nat) (Z0 : n0 ≤ h0.size) (S_TIMES : Sta Z h0 "com/example/tidemark/tidemark/Expression$Operator" "TIMES" "Lcom/example/tidemark/tidemark/Expression$Operator;" (.ref s_TIMES)) (E_s_TIMES : Exa Z h0 s_TIMES "com/example/tidemark/tidemark/Expression$Operator") (S_DIVIDE : Sta Z h0 "com/example/tidemark/tidemark/Expression$Operator" "DIVIDE" "Lcom/example/tidemark/tidemark/Expression$Operator;" (.ref s_DIVIDE)) (E_s_DIVIDE : Exa Z h0 s_DIVIDE "com/example/tidemark/tidemark/Expression$Operator") (S_REMAINDER : Sta Z h0 "com/example/tidemark/tidemark/Expression$Operator" "REMAINDER" "Lcom/example/tidemark/tidemark/Expression$Operator;" (.ref s_REMAINDER)) (E_s_REMAINDER : Exa Z h0 s_REMAINDER "com/example/tidemark/tidemark/Expression$Operator") (S_PLUS : Sta Z h0 "com/example/tidemark/tidemark/Expression$Operator" "PLUS" "Lcom/example/tidemark/tidemark/Expression$Operator;" (.ref s_PLUS)) (E_s_PLUS : Exa Z h0 s_PLUS "com/example/tidemark/tidemark/Expression$Operator") (S_MINUS : Sta Z h0 "com/example/tidemark/tidemark/Expression$Operator" "MINUS" "Lcom/example/tidemark/tidemark/Expression$Operator;" (.ref s_MINUS)) (E_s_MINUS : Exa Z h0 s_MINUS "com/example/tidemark/tidemark/Expression$Operator") (S_LESS : Sta Z h0 "com/example/tidemark/tidemark/Expression$Operator" "LESS" "Lcom/example/tidemark/tidemark/Expression$Operator;" (.ref s_LESS)) (E_s_LESS : Exa Z h0 s_LESS "com/example/tidemark/tidemark/Expression$Operator") (S_LESS_OR_EQUAL : Sta Z h0 "com/example/tidemark/tidemark/Expression$Operator" "LESS_OR_EQUAL" "Lcom/example/tidemark/tidemark/Expression$Operator;" (.ref s_LESS_OR_EQUAL)) (E_s_LESS_OR_EQUAL : Exa Z h0 s_LESS_OR_EQUAL "com/example/tidemark/tidemark/Expression$Operator") (S_GREATER : Sta Z h0 "com/example/tidemark/tidemark/Expression$Operator" "GREATER" "Lcom/example/tidemark/tidemark/Expression$Operator;" (.ref s_GREATER)) (E_s_GREATER : Exa Z h0 s_GREATER "com/example/tidemark/tidemark/Expression$Operator") (S_GREATER_OR_EQUAL : Sta Z h0 "com/example/tidemark/tidemark/Expression$Operator" "GREATER_OR_EQUAL" "Lcom/example/tidemark/tidemark/Expression$Operator;" (.ref s_GREATER_OR_EQUAL)) (E_s_GREATER_OR_EQUAL : Exa Z h0 s_GREATER_OR_EQUAL "com/example/tidemark/tidemark/Expression$Operator") (S_EQUAL : Sta Z h0 "com/example/tidemark/tidemark/Expression$Operator" "EQUAL" "Lcom/example/tidemark/tidemark/Expression$Operator;" (.ref s_EQUAL)) (E_s_EQUAL : Exa Z h0 s_EQUAL "com/example/tidemark/tidemark/Expression$Operator") (S_NOT_EQUAL : Sta Z h0 "com/example/tidemark/tidemark/Expression$Operator" "NOT_EQUAL" "Lcom/example/tidemark/tidemark/Expression$Operator;" (.ref s_NOT_EQUAL)) (E_s_NOT_EQUAL : Exa Z h0 s_NOT_EQUAL "com/example/tidemark/tidemark/Expression$Operator") (F_level_s_TIMES : Fld Z h0 s_TIMES "com/example/tidemark/tidemark/Expression$Operator" "level" "I" (.int (0 : Int32))) (F_level_s_PLUS : Fld Z h0 s_PLUS "com/example/tidemark/tidemark/Expression$Operator" "level" "I" (.int (1 : Int32))) (F_level_s_GREATER : Fld Z h0 s_GREATER "com/example/tidemark/tidemark/Expression$Operator" "level" "I" (.int (2 : Int32))) (F_level_s_GREATER_OR_EQUAL : Fld Z h0 s_GREATER_OR_EQUAL "com/example/tidemark/tidemark/Expression$Operator" "level" "I" (.int (2 : Int32))) (F_level_s_REMAINDER : Fld Z h0 s_REMAINDER "com/example/tidemark/tidemark/Expression$Operator" "level" "I" (.int (0 : Int32))) (F_level_s_NOT_EQUAL : Fld Z h0 s_NOT_EQUAL "com/example/tidemark/tidemark/Expression$Operator" "level" "I" (.int (2 : Int32))) (F_level_s_DIVIDE : Fld Z h0 s_DIVIDE "com/example/tidemark/tidemark/Expression$Operator" "level" "I" (.int (0 : Int32))) (F_level_s_EQUAL : Fld Z h0 s_EQUAL "com/example/tidemark/tidemark/Expression$Operator" "level" "I" (.int (2 : Int32))) (F_level_s_LESS : Fld Z h0 s_LESS "com/example/tidemark/tidemark/Expression$Operator" "level" "I" (.int (2 : Int32))) (F_level_s_LESS_OR_EQUAL : Fld Z h0 s_LESS_OR_EQUAL "com/example/tidemark/tidemark/Expression$Operator" "level" "I" (.int (2 : Int32))) (F_level_s_MINUS : Fld Z h0 s_MINUS "com/example/tidemark/tidemark/Expression$Operator" "level" "I" (.int (1 : Int32))) :
    MetFree l x (head1 (Jvm.Cond.code x code maxLocals ret :: ws) room_1) (fun a U => a = #[(.int p1)] ∧ Z.Warmed39 U.vm ∧ U.heap = h0) (fun _ _ _ _ _ => True) (fun _ U o U' => ∃ v L, o = .returned v ∧ Q0 Z p1 s_TIMES s_DIVIDE s_REMAINDER s_PLUS s_MINUS s_LESS s_LESS_OR_EQUAL s_GREATER s_GREATER_OR_EQUAL s_EQUAL s_NOT_EQUAL h0 n0 v U'.heap L ∧ FrameEnd U o U' L room_1.cells room_1.slots) := by
  refine MetFree.of_bodySF (plainFor_of_name pn_0) hisR ?_
  intro p e s m args below meth c s₁ Bd hml0 hP hK
  obtain ⟨rfl, hZ, hh⟩ := hP
  have hx := Bd.exec
  have hby := Bd.bytes
  have hml : c.maxLocals = 4 := hml0
  have hown : s.vm.findClass "com/example/tidemark/tidemark/OperatorComparesPinLaw" = some m.cls := findClass_of_methodNamed Bd.named
  have hnm := (name_of_methodNamed Bd.named Bd.method).1
  have X0 : Stand p l e room_1 s m #[(.int p1)] below meth c s₁ [] 0 0 := Stand.of_body Bd
  have e0 : s₁.heap = h0 := by rw [← hh, Bd.state]; rfl
  have N0 := Fr.nil n0
  have pre0 : ∀ tq, Steps p.tables e below (s₁.setTop (mkF m 0 #[.val (.int p1), .unset, .unset, .unset] [])) tq → Steps p.tables e below (s₁.setTop (entryFrame m #[(.int p1)] maxLocals)) tq := fun tq kq => castTop (ef_0 m p1) kq
  have pre1 : ∀ tq, Steps p.tables e below (s₁.setTop (mkF m 2 #[.val (.int p1), .unset, .unset, .unset] [(.int (11 : Int32))])) tq → Steps p.tables e below (s₁.setTop (entryFrame m #[(.int p1)] maxLocals)) tq := by
    refine fun tq kq => pre0 tq ?_
    show Steps p.tables e below (s₁.setTop (mkF m 0 #[.val (.int p1), .unset, .unset, .unset] [])) _
    refine XS.bipush X0.here hx rfl (hb hby at_0) ?_
    exact kq
  obtain ⟨T2, h2, k2, X2, e2, E2, A2, O2, st2⟩ := newR X0 hx hZ hown (hw _ (List.mem_of_getElem? (i := 0) rfl)) (hw _ (List.mem_of_getElem? (i := 1) rfl)) e0 (g := (mkF m 2 #[.val (.int p1), .unset, .unset, .unset] [(.int (11 : Int32))])) rfl (hb hby at_2) rfl (by decide) (cap := 11) (by decide) (by decide) (by decide) (by decide)
  obtain ⟨b2, g2⟩ : ∃ z, z = h0.size := ⟨_, rfl⟩
  rw [← g2] at A2 st2
  have g_b2 : n0 ≤ b2 := Nat.le_trans Z0 (Nat.le_of_eq g2.symm)
  have sz_b2 : h0.size ≤ b2 := Nat.le_trans (Nat.le_refl h0.size) (Nat.le_of_eq g2.symm)
  have ne3 : s_TIMES ≠ b2 := Nat.ne_of_lt (Nat.lt_of_lt_of_le E_s_TIMES.lt (Nat.le_of_eq g2.symm))
  have ne4 : s_DIVIDE ≠ b2 := Nat.ne_of_lt (Nat.lt_of_lt_of_le E_s_DIVIDE.lt (Nat.le_of_eq g2.symm))
  have ne5 : s_REMAINDER ≠ b2 := Nat.ne_of_lt (Nat.lt_of_lt_of_le E_s_REMAINDER.lt (Nat.le_of_eq g2.symm))
  have ne6 : s_PLUS ≠ b2 := Nat.ne_of_lt (Nat.lt_of_lt_of_le E_s_PLUS.lt (Nat.le_of_eq g2.symm))
  have ne7 : s_MINUS ≠ b2 := Nat.ne_of_lt (Nat.lt_of_lt_of_le E_s_MINUS.lt (Nat.le_of_eq g2.symm))
  have ne8 : s_LESS ≠ b2 := Nat.ne_of_lt (Nat.lt_of_lt_of_le E_s_LESS.lt (Nat.le_of_eq g2.symm))
  have ne9 : s_LESS_OR_EQUAL ≠ b2 := Nat.ne_of_lt (Nat.lt_of_lt_of_le E_s_LESS_OR_EQUAL.lt (Nat.le_of_eq g2.symm))
  have ne10 : s_GREATER ≠ b2 := Nat.ne_of_lt (Nat.lt_of_lt_of_le E_s_GREATER.lt (Nat.le_of_eq g2.symm))
  have ne11 : s_GREATER_OR_EQUAL ≠ b2 := Nat.ne_of_lt (Nat.lt_of_lt_of_le E_s_GREATER_OR_EQUAL.lt (Nat.le_of_eq g2.symm))
  have ne12 : s_EQUAL ≠ b2 := Nat.ne_of_lt (Nat.lt_of_lt_of_le E_s_EQUAL.lt (Nat.le_of_eq g2.symm))
  have ne13 : s_NOT_EQUAL ≠ b2 := Nat.ne_of_lt (Nat.lt_of_lt_of_le E_s_NOT_EQUAL.lt (Nat.le_of_eq g2.symm))
  have pre14 : ∀ tq, Steps p.tables e below (T2.setTop (mkF m 5 #[.val (.int p1), .unset, .unset, .unset] [(.ref b2)])) tq → Steps p.tables e below (s₁.setTop (entryFrame m #[(.int p1)] maxLocals)) tq := fun tq kq => pre1 tq (st2 _ kq)
  have f15 := S_TIMES.ext E2
  have f16 := E_s_TIMES.ext E2
  have f17 := S_DIVIDE.ext E2
  have f18 := E_s_DIVIDE.ext E2
  have f19 := S_REMAINDER.ext E2
  have f20 := E_s_REMAINDER.ext E2
  have f21 := S_PLUS.ext E2
  have f22 := E_s_PLUS.ext E2
  have f23 := S_MINUS.ext E2
  have f24 := E_s_MINUS.ext E2
  have f25 := S_LESS.ext E2
  have f26 := E_s_LESS.ext E2
  have f27 := S_LESS_OR_EQUAL.ext E2
  have f28 := E_s_LESS_OR_EQUAL.ext E2
  have f29 := S_GREATER.ext E2
  have f30 := E_s_GREATER.ext E2
  have f31 := S_GREATER_OR_EQUAL.ext E2
  have f32 := E_s_GREATER_OR_EQUAL.ext E2
  have f33 := S_EQUAL.ext E2
  have f34 := E_s_EQUAL.ext E2
  have f35 := S_NOT_EQUAL.ext E2
  have f36 := E_s_NOT_EQUAL.ext E2
  have f37 := F_level_s_TIMES.ext E2
  have f38 := F_level_s_PLUS.ext E2
  have f39 := F_level_s_GREATER.ext E2
  have f40 := F_level_s_GREATER_OR_EQUAL.ext E2
  have f41 := F_level_s_REMAINDER.ext E2
  have f42 := F_level_s_NOT_EQUAL.ext E2
  have f43 := F_level_s_DIVIDE.ext E2
  have f44 := F_level_s_EQUAL.ext E2
  have f45 := F_level_s_LESS.ext E2
  have f46 := F_level_s_LESS_OR_EQUAL.ext E2
  have f47 := F_level_s_MINUS.ext E2
  have K2 : Keep h0 h2 [] := Keep.ext (Keep.refl h0 []) E2
  have f48 : Arv Z h2 b2 k2 (.object "com/example/tidemark/tidemark/Expression$Operator") (11 : Int32) [.null, .null, .null, .null, .null, .null, .null, .null, .null, .null, .null] .null := (Arv.new A2 (by decide)).pad (pad_rep [] .null 11)
  have pre49 : ∀ tq, Steps p.tables e below (T2.setTop (mkF m 7 #[.val (.int p1), .unset, .unset, .unset] [(.int (0 : Int32)), (.ref b2), (.ref b2)])) tq → Steps p.tables e below (s₁.setTop (entryFrame m #[(.int p1)] maxLocals)) tq := by
    refine fun tq kq => pre14 tq ?_
    show Steps p.tables e below (T2.setTop (mkF m 5 #[.val (.int p1), .unset, .unset, .unset] [(.ref b2)])) _
    refine XS.dup X2.here hx rfl (hb hby at_5) rfl rfl ?_
    show Steps p.tables e below (T2.setTop (mkF m 6 #[.val (.int p1), .unset, .unset, .unset] [(.ref b2), (.ref b2)])) _
    refine XS.iconst X2.here hx rfl (hb hby at_6) ?_
    exact kq
  obtain ⟨T50, X50, e50, st50⟩ := getS2 X2 hx hZ hown (host := "") (Or.inl (hw _ (List.mem_of_getElem? (i := 2) rfl))) Via.refl e2 f15 (g := (mkF m 7 #[.val (.int p1), .unset, .unset, .unset] [(.int (0 : Int32)), (.ref b2), (.ref b2)])) rfl (hb hby at_7)
  have pre51 : ∀ tq, Steps p.tables e below (T50.setTop (mkF m 10 #[.val (.int p1), .unset, .unset, .unset] [(.ref s_TIMES), (.int (0 : Int32)), (.ref b2), (.ref b2)])) tq → Steps p.tables e below (s₁.setTop (entryFrame m #[(.int p1)] maxLocals)) tq := fun tq kq => pre49 tq (st50 _ kq)
  have Vc52 := f48
  obtain ⟨cl52, Ar52, Aq52, As52, An52, Ah52, Ag52⟩ := Vc52
  have hin52 : ¬ ((0 : Int32) < 0 ∨ cl52.slots.size ≤ ((0 : Int32)).toNatClampNeg) := inb_of As52 ⟨by decide, by decide⟩
  obtain ⟨T52, h52, X52, e52, W52, st52⟩ := stR X50 hx hZ e50 Ar52 (j := (0 : Int32)) hin52 rfl (Sto.ofV Ar52 Aq52 O2 (Ins.self f16)) (g := (mkF m 10 #[.val (.int p1), .unset, .unset, .unset] [(.ref s_TIMES), (.int (0 : Int32)), (.ref b2), (.ref b2)])) rfl rfl (hb hby at_10)
  have pre53 : ∀ tq, Steps p.tables e below (T52.setTop (mkF m 11 #[.val (.int p1), .unset, .unset, .unset] [(.ref b2)])) tq → Steps p.tables e below (s₁.setTop (entryFrame m #[(.int p1)] maxLocals)) tq := fun tq kq => pre51 tq (st52 _ kq)
  have N52 := Fr.snoc X52 N0 g_b2
  have K52 : Keep h0 h52 [] := Keep.wr K2 W52 (Or.inr sz_b2)
  have f54 := f15.wr W52
  have f55 := f16.wr W52
  have f56 := f17.wr W52
  have f57 := f18.wr W52
  have f58 := f19.wr W52
  have f59 := f20.wr W52
  have f60 := f21.wr W52
  have f61 := f22.wr W52
  have f62 := f23.wr W52
  have f63 := f24.wr W52
  have f64 := f25.wr W52
  have f65 := f26.wr W52
  have f66 := f27.wr W52
  have f67 := f28.wr W52
  have f68 := f29.wr W52
  have f69 := f30.wr W52
  have f70 := f31.wr W52
  have f71 := f32.wr W52
  have f72 := f33.wr W52
  have f73 := f34.wr W52
  have f74 := f35.wr W52
  have f75 := f36.wr W52
  have f76 := f37.other W52 (Or.inl ne3)
  have f77 := f38.other W52 (Or.inl ne6)
  have f78 := f39.other W52 (Or.inl ne10)
  have f79 := f40.other W52 (Or.inl ne11)
  have f80 := f41.other W52 (Or.inl ne5)
  have f81 := f42.other W52 (Or.inl ne13)
  have f82 := f43.other W52 (Or.inl ne4)
  have f83 := f44.other W52 (Or.inl ne12)
  have f84 := f45.other W52 (Or.inl ne8)
  have f85 := f46.other W52 (Or.inl ne9)
  have f86 := f47.other W52 (Or.inl ne7)
  have f87 : Arv Z h52 b2 k2 (.object "com/example/tidemark/tidemark/Expression$Operator") (11 : Int32) [(.ref s_TIMES), .null, .null, .null, .null, .null, .null, .null, .null, .null, .null] .null := Arv.set Ar52 Aq52 As52 An52 Ah52 Ag52 rfl W52 0 rfl (Nat.le_of_ble_eq_true rfl)
  have pre88 : ∀ tq, Steps p.tables e below (T52.setTop (mkF m 13 #[.val (.int p1), .unset, .unset, .unset] [(.int (1 : Int32)), (.ref b2), (.ref b2)])) tq → Steps p.tables e below (s₁.setTop (entryFrame m #[(.int p1)] maxLocals)) tq := by
    refine fun tq kq => pre53 tq ?_
    show Steps p.tables e below (T52.setTop (mkF m 11 #[.val (.int p1), .unset, .unset, .unset] [(.ref b2)])) _
    refine XS.dup X52.here hx rfl (hb hby at_11) rfl rfl ?_
    show Steps p.tables e below (T52.setTop (mkF m 12 #[.val (.int p1), .unset, .unset, .unset] [(.ref b2), (.ref b2)])) _
    refine XS.iconst X52.here hx rfl (hb hby at_12) ?_
    exact kq
  obtain ⟨T89, X89, e89, st89⟩ := getS2 X52 hx hZ hown (host := "") (Or.inl (hw _ (List.mem_of_getElem? (i := 6) rfl))) Via.refl e52 f56 (g := (mkF m 13 #[.val (.int p1), .unset, .unset, .unset] [(.int (1 : Int32)), (.ref b2), (.ref b2)])) rfl (hb hby at_13)
  have pre90 : ∀ tq, Steps p.tables e below (T89.setTop (mkF m 16 #[.val (.int p1), .unset, .unset, .unset] [(.ref s_DIVIDE), (.int (1 : Int32)), (.ref b2), (.ref b2)])) tq → Steps p.tables e below (s₁.setTop (entryFrame m #[(.int p1)] maxLocals)) tq := fun tq kq => pre88 tq (st89 _ kq)
  have Vc91 := f87
  obtain ⟨cl91, Ar91, Aq91, As91, An91, Ah91, Ag91⟩ := Vc91
  have hin91 : ¬ ((1 : Int32) < 0 ∨ cl91.slots.size ≤ ((1 : Int32)).toNatClampNeg) := inb_of As91 ⟨by decide, by decide⟩
  obtain ⟨T91, h91, X91, e91, W91, st91⟩ := stR X89 hx hZ e89 Ar91 (j := (1 : Int32)) hin91 rfl (Sto.ofV Ar91 Aq91 O2 (Ins.self f57)) (g := (mkF m 16 #[.val (.int p1), .unset, .unset, .unset] [(.ref s_DIVIDE), (.int (1 : Int32)), (.ref b2), (.ref b2)])) rfl rfl (hb hby at_16)
  have pre92 : ∀ tq, Steps p.tables e below (T91.setTop (mkF m 17 #[.val (.int p1), .unset, .unset, .unset] [(.ref b2)])) tq → Steps p.tables e below (s₁.setTop (entryFrame m #[(.int p1)] maxLocals)) tq := fun tq kq => pre90 tq (st91 _ kq)
  have N91 := Fr.snoc X91 N52 g_b2
  have K91 : Keep h0 h91 [] := Keep.wr K52 W91 (Or.inr sz_b2)
  have f93 := f54.wr W91
  have f94 := f55.wr W91
  have f95 := f56.wr W91
  have f96 := f57.wr W91
  have f97 := f58.wr W91
  have f98 := f59.wr W91
  have f99 := f60.wr W91
  have f100 := f61.wr W91
  have f101 := f62.wr W91
  have f102 := f63.wr W91
  have f103 := f64.wr W91
  have f104 := f65.wr W91
  have f105 := f66.wr W91
  have f106 := f67.wr W91
  have f107 := f68.wr W91
  have f108 := f69.wr W91
  have f109 := f70.wr W91
  have f110 := f71.wr W91
  have f111 := f72.wr W91
  have f112 := f73.wr W91
  have f113 := f74.wr W91
  have f114 := f75.wr W91
  have f115 := f76.other W91 (Or.inl ne3)
  have f116 := f77.other W91 (Or.inl ne6)
  have f117 := f78.other W91 (Or.inl ne10)
  have f118 := f79.other W91 (Or.inl ne11)
  have f119 := f80.other W91 (Or.inl ne5)
  have f120 := f81.other W91 (Or.inl ne13)
  have f121 := f82.other W91 (Or.inl ne4)
  have f122 := f83.other W91 (Or.inl ne12)
  have f123 := f84.other W91 (Or.inl ne8)
  have f124 := f85.other W91 (Or.inl ne9)
  have f125 := f86.other W91 (Or.inl ne7)
  have f126 : Arv Z h91 b2 k2 (.object "com/example/tidemark/tidemark/Expression$Operator") (11 : Int32) [(.ref s_TIMES), (.ref s_DIVIDE), .null, .null, .null, .null, .null, .null, .null, .null, .null] .null := Arv.set Ar91 Aq91 As91 An91 Ah91 Ag91 rfl W91 1 rfl (Nat.le_of_ble_eq_true rfl)
  have pre127 : ∀ tq, Steps p.tables e below (T91.setTop (mkF m 19 #[.val (.int p1), .unset, .unset, .unset] [(.int (2 : Int32)), (.ref b2), (.ref b2)])) tq → Steps p.tables e below (s₁.setTop (entryFrame m #[(.int p1)] maxLocals)) tq := by
    refine fun tq kq => pre92 tq ?_
    show Steps p.tables e below (T91.setTop (mkF m 17 #[.val (.int p1), .unset, .unset, .unset] [(.ref b2)])) _
    refine XS.dup X91.here hx rfl (hb hby at_17) rfl rfl ?_
    show Steps p.tables e below (T91.setTop (mkF m 18 #[.val (.int p1), .unset, .unset, .unset] [(.ref b2), (.ref b2)])) _
    refine XS.iconst X91.here hx rfl (hb hby at_18) ?_
    exact kq
  obtain ⟨T128, X128, e128, st128⟩ := getS2 X91 hx hZ hown (host := "") (Or.inl (hw _ (List.mem_of_getElem? (i := 8) rfl))) Via.refl e91 f97 (g := (mkF m 19 #[.val (.int p1), .unset, .unset, .unset] [(.int (2 : Int32)), (.ref b2), (.ref b2)])) rfl (hb hby at_19)
  have pre129 : ∀ tq, Steps p.tables e below (T128.setTop (mkF m 22 #[.val (.int p1), .unset, .unset, .unset] [(.ref s_REMAINDER), (.int (2 : Int32)), (.ref b2), (.ref b2)])) tq → Steps p.tables e below (s₁.setTop (entryFrame m #[(.int p1)] maxLocals)) tq := fun tq kq => pre127 tq (st128 _ kq)
  have Vc130 := f126
  obtain ⟨cl130, Ar130, Aq130, As130, An130, Ah130, Ag130⟩ := Vc130
  have hin130 : ¬ ((2 : Int32) < 0 ∨ cl130.slots.size ≤ ((2 : Int32)).toNatClampNeg) := inb_of As130 ⟨by decide, by decide⟩
  obtain ⟨T130, h130, X130, e130, W130, st130⟩ := stR X128 hx hZ e128 Ar130 (j := (2 : Int32)) hin130 rfl (Sto.ofV Ar130 Aq130 O2 (Ins.self f98)) (g := (mkF m 22 #[.val (.int p1), .unset, .unset, .unset] [(.ref s_REMAINDER), (.int (2 : Int32)), (.ref b2), (.ref b2)])) rfl rfl (hb hby at_22)
  have pre131 : ∀ tq, Steps p.tables e below (T130.setTop (mkF m 23 #[.val (.int p1), .unset, .unset, .unset] [(.ref b2)])) tq → Steps p.tables e below (s₁.setTop (entryFrame m #[(.int p1)] maxLocals)) tq := fun tq kq => pre129 tq (st130 _ kq)
  have N130 := Fr.snoc X130 N91 g_b2
  have K130 : Keep h0 h130 [] := Keep.wr K91 W130 (Or.inr sz_b2)
  have f132 := f93.wr W130
  have f133 := f94.wr W130
  have f134 := f95.wr W130
  have f135 := f96.wr W130
  have f136 := f97.wr W130
  have f137 := f98.wr W130
  have f138 := f99.wr W130
  have f139 := f100.wr W130
  have f140 := f101.wr W130
  have f141 := f102.wr W130
  have f142 := f103.wr W130
  have f143 := f104.wr W130
  have f144 := f105.wr W130
  have f145 := f106.wr W130
  have f146 := f107.wr W130
  have f147 := f108.wr W130
  have f148 := f109.wr W130
  have f149 := f110.wr W130
  have f150 := f111.wr W130
  have f151 := f112.wr W130
  have f152 := f113.wr W130
  have f153 := f114.wr W130
  have f154 := f115.other W130 (Or.inl ne3)
  have f155 := f116.other W130 (Or.inl ne6)
  have f156 := f117.other W130 (Or.inl ne10)
  have f157 := f118.other W130 (Or.inl ne11)
  have f158 := f119.other W130 (Or.inl ne5)
  have f159 := f120.other W130 (Or.inl ne13)
  have f160 := f121.other W130 (Or.inl ne4)
  have f161 := f122.other W130 (Or.inl ne12)
  have f162 := f123.other W130 (Or.inl ne8)
  have f163 := f124.other W130 (Or.inl ne9)
  have f164 := f125.other W130 (Or.inl ne7)
  have f165 : Arv Z h130 b2 k2 (.object "com/example/tidemark/tidemark/Expression$Operator") (11 : Int32) [(.ref s_TIMES), (.ref s_DIVIDE), (.ref s_REMAINDER), .null, .null, .null, .null, .null, .null, .null, .null] .null := Arv.set Ar130 Aq130 As130 An130 Ah130 Ag130 rfl W130 2 rfl (Nat.le_of_ble_eq_true rfl)
  have pre166 : ∀ tq, Steps p.tables e below (T130.setTop (mkF m 25 #[.val (.int p1), .unset, .unset, .unset] [(.int (3 : Int32)), (.ref b2), (.ref b2)])) tq → Steps p.tables e below (s₁.setTop (entryFrame m #[(.int p1)] maxLocals)) tq := by
    refine fun tq kq => pre131 tq ?_
    show Steps p.tables e below (T130.setTop (mkF m 23 #[.val (.int p1), .unset, .unset, .unset] [(.ref b2)])) _
    refine XS.dup X130.here hx rfl (hb hby at_23) rfl rfl ?_
    show Steps p.tables e below (T130.setTop (mkF m 24 #[.val (.int p1), .unset, .unset, .unset] [(.ref b2), (.ref b2)])) _
    refine XS.iconst X130.here hx rfl (hb hby at_24) ?_
    exact kq
  obtain ⟨T167, X167, e167, st167⟩ := getS2 X130 hx hZ hown (host := "") (Or.inl (hw _ (List.mem_of_getElem? (i := 10) rfl))) Via.refl e130 f138 (g := (mkF m 25 #[.val (.int p1), .unset, .unset, .unset] [(.int (3 : Int32)), (.ref b2), (.ref b2)])) rfl (hb hby at_25)
  have pre168 : ∀ tq, Steps p.tables e below (T167.setTop (mkF m 28 #[.val (.int p1), .unset, .unset, .unset] [(.ref s_PLUS), (.int (3 : Int32)), (.ref b2), (.ref b2)])) tq → Steps p.tables e below (s₁.setTop (entryFrame m #[(.int p1)] maxLocals)) tq := fun tq kq => pre166 tq (st167 _ kq)
  have Vc169 := f165
  obtain ⟨cl169, Ar169, Aq169, As169, An169, Ah169, Ag169⟩ := Vc169
  have hin169 : ¬ ((3 : Int32) < 0 ∨ cl169.slots.size ≤ ((3 : Int32)).toNatClampNeg) := inb_of As169 ⟨by decide, by decide⟩
  obtain ⟨T169, h169, X169, e169, W169, st169⟩ := stR X167 hx hZ e167 Ar169 (j := (3 : Int32)) hin169 rfl (Sto.ofV Ar169 Aq169 O2 (Ins.self f139)) (g := (mkF m 28 #[.val (.int p1), .unset, .unset, .unset] [(.ref s_PLUS), (.int (3 : Int32)), (.ref b2), (.ref b2)])) rfl rfl (hb hby at_28)
  have pre170 : ∀ tq, Steps p.tables e below (T169.setTop (mkF m 29 #[.val (.int p1), .unset, .unset, .unset] [(.ref b2)])) tq → Steps p.tables e below (s₁.setTop (entryFrame m #[(.int p1)] maxLocals)) tq := fun tq kq => pre168 tq (st169 _ kq)
  have N169 := Fr.snoc X169 N130 g_b2
  have K169 : Keep h0 h169 [] := Keep.wr K130 W169 (Or.inr sz_b2)
  have f171 := f132.wr W169
  have f172 := f133.wr W169
  have f173 := f134.wr W169
  have f174 := f135.wr W169
  have f175 := f136.wr W169
  have f176 := f137.wr W169
  have f177 := f138.wr W169
  have f178 := f139.wr W169
  have f179 := f140.wr W169
  have f180 := f141.wr W169
  have f181 := f142.wr W169
  have f182 := f143.wr W169
  have f183 := f144.wr W169
  have f184 := f145.wr W169
  have f185 := f146.wr W169
  have f186 := f147.wr W169
  have f187 := f148.wr W169
  have f188 := f149.wr W169
  have f189 := f150.wr W169
  have f190 := f151.wr W169
  have f191 := f152.wr W169
  have f192 := f153.wr W169
  have f193 := f154.other W169 (Or.inl ne3)
  have f194 := f155.other W169 (Or.inl ne6)
  have f195 := f156.other W169 (Or.inl ne10)
  have f196 := f157.other W169 (Or.inl ne11)
  have f197 := f158.other W169 (Or.inl ne5)
  have f198 := f159.other W169 (Or.inl ne13)
  have f199 := f160.other W169 (Or.inl ne4)
  have f200 := f161.other W169 (Or.inl ne12)
  have f201 := f162.other W169 (Or.inl ne8)
  have f202 := f163.other W169 (Or.inl ne9)
  have f203 := f164.other W169 (Or.inl ne7)
  have f204 : Arv Z h169 b2 k2 (.object "com/example/tidemark/tidemark/Expression$Operator") (11 : Int32) [(.ref s_TIMES), (.ref s_DIVIDE), (.ref s_REMAINDER), (.ref s_PLUS), .null, .null, .null, .null, .null, .null, .null] .null := Arv.set Ar169 Aq169 As169 An169 Ah169 Ag169 rfl W169 3 rfl (Nat.le_of_ble_eq_true rfl)
  have pre205 : ∀ tq, Steps p.tables e below (T169.setTop (mkF m 31 #[.val (.int p1), .unset, .unset, .unset] [(.int (4 : Int32)), (.ref b2), (.ref b2)])) tq → Steps p.tables e below (s₁.setTop (entryFrame m #[(.int p1)] maxLocals)) tq := by
    refine fun tq kq => pre170 tq ?_
    show Steps p.tables e below (T169.setTop (mkF m 29 #[.val (.int p1), .unset, .unset, .unset] [(.ref b2)])) _
    refine XS.dup X169.here hx rfl (hb hby at_29) rfl rfl ?_
    show Steps p.tables e below (T169.setTop (mkF m 30 #[.val (.int p1), .unset, .unset, .unset] [(.ref b2), (.ref b2)])) _
    refine XS.iconst X169.here hx rfl (hb hby at_30) ?_
    exact kq
  obtain ⟨T206, X206, e206, st206⟩ := getS2 X169 hx hZ hown (host := "") (Or.inl (hw _ (List.mem_of_getElem? (i := 12) rfl))) Via.refl e169 f179 (g := (mkF m 31 #[.val (.int p1), .unset, .unset, .unset] [(.int (4 : Int32)), (.ref b2), (.ref b2)])) rfl (hb hby at_31)
  have pre207 : ∀ tq, Steps p.tables e below (T206.setTop (mkF m 34 #[.val (.int p1), .unset, .unset, .unset] [(.ref s_MINUS), (.int (4 : Int32)), (.ref b2), (.ref b2)])) tq → Steps p.tables e below (s₁.setTop (entryFrame m #[(.int p1)] maxLocals)) tq := fun tq kq => pre205 tq (st206 _ kq)
  have Vc208 := f204
  obtain ⟨cl208, Ar208, Aq208, As208, An208, Ah208, Ag208⟩ := Vc208
  have hin208 : ¬ ((4 : Int32) < 0 ∨ cl208.slots.size ≤ ((4 : Int32)).toNatClampNeg) := inb_of As208 ⟨by decide, by decide⟩
  obtain ⟨T208, h208, X208, e208, W208, st208⟩ := stR X206 hx hZ e206 Ar208 (j := (4 : Int32)) hin208 rfl (Sto.ofV Ar208 Aq208 O2 (Ins.self f180)) (g := (mkF m 34 #[.val (.int p1), .unset, .unset, .unset] [(.ref s_MINUS), (.int (4 : Int32)), (.ref b2), (.ref b2)])) rfl rfl (hb hby at_34)
  have pre209 : ∀ tq, Steps p.tables e below (T208.setTop (mkF m 35 #[.val (.int p1), .unset, .unset, .unset] [(.ref b2)])) tq → Steps p.tables e below (s₁.setTop (entryFrame m #[(.int p1)] maxLocals)) tq := fun tq kq => pre207 tq (st208 _ kq)
  have N208 := Fr.snoc X208 N169 g_b2
  have K208 : Keep h0 h208 [] := Keep.wr K169 W208 (Or.inr sz_b2)
  have f210 := f171.wr W208
  have f211 := f172.wr W208
  have f212 := f173.wr W208
  have f213 := f174.wr W208
  have f214 := f175.wr W208
  have f215 := f176.wr W208
  have f216 := f177.wr W208
  have f217 := f178.wr W208
  have f218 := f179.wr W208
  have f219 := f180.wr W208
  have f220 := f181.wr W208
  have f221 := f182.wr W208
  have f222 := f183.wr W208
  have f223 := f184.wr W208
  have f224 := f185.wr W208
  have f225 := f186.wr W208
  have f226 := f187.wr W208
  have f227 := f188.wr W208
  have f228 := f189.wr W208
  have f229 := f190.wr W208
  have f230 := f191.wr W208
  have f231 := f192.wr W208
  have f232 := f193.other W208 (Or.inl ne3)
  have f233 := f194.other W208 (Or.inl ne6)
  have f234 := f195.other W208 (Or.inl ne10)
  have f235 := f196.other W208 (Or.inl ne11)
  have f236 := f197.other W208 (Or.inl ne5)
  have f237 := f198.other W208 (Or.inl ne13)
  have f238 := f199.other W208 (Or.inl ne4)
  have f239 := f200.other W208 (Or.inl ne12)
  have f240 := f201.other W208 (Or.inl ne8)
  have f241 := f202.other W208 (Or.inl ne9)
  have f242 := f203.other W208 (Or.inl ne7)
  have f243 : Arv Z h208 b2 k2 (.object "com/example/tidemark/tidemark/Expression$Operator") (11 : Int32) [(.ref s_TIMES), (.ref s_DIVIDE), (.ref s_REMAINDER), (.ref s_PLUS), (.ref s_MINUS), .null, .null, .null, .null, .null, .null] .null := Arv.set Ar208 Aq208 As208 An208 Ah208 Ag208 rfl W208 4 rfl (Nat.le_of_ble_eq_true rfl)
  have pre244 : ∀ tq, Steps p.tables e below (T208.setTop (mkF m 37 #[.val (.int p1), .unset, .unset, .unset] [(.int (5 : Int32)), (.ref b2), (.ref b2)])) tq → Steps p.tables e below (s₁.setTop (entryFrame m #[(.int p1)] maxLocals)) tq := by
    refine fun tq kq => pre209 tq ?_
    show Steps p.tables e below (T208.setTop (mkF m 35 #[.val (.int p1), .unset, .unset, .unset] [(.ref b2)])) _
    refine XS.dup X208.here hx rfl (hb hby at_35) rfl rfl ?_
    show Steps p.tables e below (T208.setTop (mkF m 36 #[.val (.int p1), .unset, .unset, .unset] [(.ref b2), (.ref b2)])) _
    refine XS.iconst X208.here hx rfl (hb hby at_36) ?_
    exact kq
  obtain ⟨T245, X245, e245, st245⟩ := getS2 X208 hx hZ hown (host := "") (Or.inl (hw _ (List.mem_of_getElem? (i := 14) rfl))) Via.refl e208 f220 (g := (mkF m 37 #[.val (.int p1), .unset, .unset, .unset] [(.int (5 : Int32)), (.ref b2), (.ref b2)])) rfl (hb hby at_37)
  have pre246 : ∀ tq, Steps p.tables e below (T245.setTop (mkF m 40 #[.val (.int p1), .unset, .unset, .unset] [(.ref s_LESS), (.int (5 : Int32)), (.ref b2), (.ref b2)])) tq → Steps p.tables e below (s₁.setTop (entryFrame m #[(.int p1)] maxLocals)) tq := fun tq kq => pre244 tq (st245 _ kq)
  have Vc247 := f243
  obtain ⟨cl247, Ar247, Aq247, As247, An247, Ah247, Ag247⟩ := Vc247
  have hin247 : ¬ ((5 : Int32) < 0 ∨ cl247.slots.size ≤ ((5 : Int32)).toNatClampNeg) := inb_of As247 ⟨by decide, by decide⟩
  obtain ⟨T247, h247, X247, e247, W247, st247⟩ := stR X245 hx hZ e245 Ar247 (j := (5 : Int32)) hin247 rfl (Sto.ofV Ar247 Aq247 O2 (Ins.self f221)) (g := (mkF m 40 #[.val (.int p1), .unset, .unset, .unset] [(.ref s_LESS), (.int (5 : Int32)), (.ref b2), (.ref b2)])) rfl rfl (hb hby at_40)
  have pre248 : ∀ tq, Steps p.tables e below (T247.setTop (mkF m 41 #[.val (.int p1), .unset, .unset, .unset] [(.ref b2)])) tq → Steps p.tables e below (s₁.setTop (entryFrame m #[(.int p1)] maxLocals)) tq := fun tq kq => pre246 tq (st247 _ kq)
  have N247 := Fr.snoc X247 N208 g_b2
  have K247 : Keep h0 h247 [] := Keep.wr K208 W247 (Or.inr sz_b2)
  have f249 := f210.wr W247
  have f250 := f211.wr W247
  have f251 := f212.wr W247
  have f252 := f213.wr W247
  have f253 := f214.wr W247
  have f254 := f215.wr W247
  have f255 := f216.wr W247
  have f256 := f217.wr W247
  have f257 := f218.wr W247
  have f258 := f219.wr W247
  have f259 := f220.wr W247
  have f260 := f221.wr W247
  have f261 := f222.wr W247
  have f262 := f223.wr W247
  have f263 := f224.wr W247
  have f264 := f225.wr W247
  have f265 := f226.wr W247
  have f266 := f227.wr W247
  have f267 := f228.wr W247
  have f268 := f229.wr W247
  have f269 := f230.wr W247
  have f270 := f231.wr W247
  have f271 := f232.other W247 (Or.inl ne3)
  have f272 := f233.other W247 (Or.inl ne6)
  have f273 := f234.other W247 (Or.inl ne10)
  have f274 := f235.other W247 (Or.inl ne11)
  have f275 := f236.other W247 (Or.inl ne5)
  have f276 := f237.other W247 (Or.inl ne13)
  have f277 := f238.other W247 (Or.inl ne4)
  have f278 := f239.other W247 (Or.inl ne12)
  have f279 := f240.other W247 (Or.inl ne8)
  have f280 := f241.other W247 (Or.inl ne9)
  have f281 := f242.other W247 (Or.inl ne7)
  have f282 : Arv Z h247 b2 k2 (.object "com/example/tidemark/tidemark/Expression$Operator") (11 : Int32) [(.ref s_TIMES), (.ref s_DIVIDE), (.ref s_REMAINDER), (.ref s_PLUS), (.ref s_MINUS), (.ref s_LESS), .null, .null, .null, .null, .null] .null := Arv.set Ar247 Aq247 As247 An247 Ah247 Ag247 rfl W247 5 rfl (Nat.le_of_ble_eq_true rfl)
  have pre283 : ∀ tq, Steps p.tables e below (T247.setTop (mkF m 44 #[.val (.int p1), .unset, .unset, .unset] [(.int (6 : Int32)), (.ref b2), (.ref b2)])) tq → Steps p.tables e below (s₁.setTop (entryFrame m #[(.int p1)] maxLocals)) tq := by
    refine fun tq kq => pre248 tq ?_
    show Steps p.tables e below (T247.setTop (mkF m 41 #[.val (.int p1), .unset, .unset, .unset] [(.ref b2)])) _
    refine XS.dup X247.here hx rfl (hb hby at_41) rfl rfl ?_
    show Steps p.tables e below (T247.setTop (mkF m 42 #[.val (.int p1), .unset, .unset, .unset] [(.ref b2), (.ref b2)])) _
    refine XS.bipush X247.here hx rfl (hb hby at_42) ?_
    exact kq
  obtain ⟨T284, X284, e284, st284⟩ := getS2 X247 hx hZ hown (host := "") (Or.inl (hw _ (List.mem_of_getElem? (i := 16) rfl))) Via.refl e247 f261 (g := (mkF m 44 #[.val (.int p1), .unset, .unset, .unset] [(.int (6 : Int32)), (.ref b2), (.ref b2)])) rfl (hb hby at_44)
  have pre285 : ∀ tq, Steps p.tables e below (T284.setTop (mkF m 47 #[.val (.int p1), .unset, .unset, .unset] [(.ref s_LESS_OR_EQUAL), (.int (6 : Int32)), (.ref b2), (.ref b2)])) tq → Steps p.tables e below (s₁.setTop (entryFrame m #[(.int p1)] maxLocals)) tq := fun tq kq => pre283 tq (st284 _ kq)
  have Vc286 := f282
  obtain ⟨cl286, Ar286, Aq286, As286, An286, Ah286, Ag286⟩ := Vc286
  have hin286 : ¬ ((6 : Int32) < 0 ∨ cl286.slots.size ≤ ((6 : Int32)).toNatClampNeg) := inb_of As286 ⟨by decide, by decide⟩
  obtain ⟨T286, h286, X286, e286, W286, st286⟩ := stR X284 hx hZ e284 Ar286 (j := (6 : Int32)) hin286 rfl (Sto.ofV Ar286 Aq286 O2 (Ins.self f262)) (g := (mkF m 47 #[.val (.int p1), .unset, .unset, .unset] [(.ref s_LESS_OR_EQUAL), (.int (6 : Int32)), (.ref b2), (.ref b2)])) rfl rfl (hb hby at_47)
  have pre287 : ∀ tq, Steps p.tables e below (T286.setTop (mkF m 48 #[.val (.int p1), .unset, .unset, .unset] [(.ref b2)])) tq → Steps p.tables e below (s₁.setTop (entryFrame m #[(.int p1)] maxLocals)) tq := fun tq kq => pre285 tq (st286 _ kq)
  have N286 := Fr.snoc X286 N247 g_b2
  have K286 : Keep h0 h286 [] := Keep.wr K247 W286 (Or.inr sz_b2)
  have f288 := f249.wr W286
  have f289 := f250.wr W286
  have f290 := f251.wr W286
  have f291 := f252.wr W286
  have f292 := f253.wr W286
  have f293 := f254.wr W286
  have f294 := f255.wr W286
  have f295 := f256.wr W286
  have f296 := f257.wr W286
  have f297 := f258.wr W286
  have f298 := f259.wr W286
  have f299 := f260.wr W286
  have f300 := f261.wr W286
  have f301 := f262.wr W286
  have f302 := f263.wr W286
  have f303 := f264.wr W286
  have f304 := f265.wr W286
  have f305 := f266.wr W286
  have f306 := f267.wr W286
  have f307 := f268.wr W286
  have f308 := f269.wr W286
  have f309 := f270.wr W286
  have f310 := f271.other W286 (Or.inl ne3)
  have f311 := f272.other W286 (Or.inl ne6)
  have f312 := f273.other W286 (Or.inl ne10)
  have f313 := f274.other W286 (Or.inl ne11)
  have f314 := f275.other W286 (Or.inl ne5)
  have f315 := f276.other W286 (Or.inl ne13)
  have f316 := f277.other W286 (Or.inl ne4)
  have f317 := f278.other W286 (Or.inl ne12)
  have f318 := f279.other W286 (Or.inl ne8)
  have f319 := f280.other W286 (Or.inl ne9)
  have f320 := f281.other W286 (Or.inl ne7)
  have f321 : Arv Z h286 b2 k2 (.object "com/example/tidemark/tidemark/Expression$Operator") (11 : Int32) [(.ref s_TIMES), (.ref s_DIVIDE), (.ref s_REMAINDER), (.ref s_PLUS), (.ref s_MINUS), (.ref s_LESS), (.ref s_LESS_OR_EQUAL), .null, .null, .null, .null] .null := Arv.set Ar286 Aq286 As286 An286 Ah286 Ag286 rfl W286 6 rfl (Nat.le_of_ble_eq_true rfl)
  have pre322 : ∀ tq, Steps p.tables e below (T286.setTop (mkF m 51 #[.val (.int p1), .unset, .unset, .unset] [(.int (7 : Int32)), (.ref b2), (.ref b2)])) tq → Steps p.tables e below (s₁.setTop (entryFrame m #[(.int p1)] maxLocals)) tq := by
    refine fun tq kq => pre287 tq ?_
    show Steps p.tables e below (T286.setTop (mkF m 48 #[.val (.int p1), .unset, .unset, .unset] [(.ref b2)])) _
    refine XS.dup X286.here hx rfl (hb hby at_48) rfl rfl ?_
    show Steps p.tables e below (T286.setTop (mkF m 49 #[.val (.int p1), .unset, .unset, .unset] [(.ref b2), (.ref b2)])) _
    refine XS.bipush X286.here hx rfl (hb hby at_49) ?_
    exact kq
  obtain ⟨T323, X323, e323, st323⟩ := getS2 X286 hx hZ hown (host := "") (Or.inl (hw _ (List.mem_of_getElem? (i := 18) rfl))) Via.refl e286 f302 (g := (mkF m 51 #[.val (.int p1), .unset, .unset, .unset] [(.int (7 : Int32)), (.ref b2), (.ref b2)])) rfl (hb hby at_51)
  have pre324 : ∀ tq, Steps p.tables e below (T323.setTop (mkF m 54 #[.val (.int p1), .unset, .unset, .unset] [(.ref s_GREATER), (.int (7 : Int32)), (.ref b2), (.ref b2)])) tq → Steps p.tables e below (s₁.setTop (entryFrame m #[(.int p1)] maxLocals)) tq := fun tq kq => pre322 tq (st323 _ kq)
  have Vc325 := f321
  obtain ⟨cl325, Ar325, Aq325, As325, An325, Ah325, Ag325⟩ := Vc325
  have hin325 : ¬ ((7 : Int32) < 0 ∨ cl325.slots.size ≤ ((7 : Int32)).toNatClampNeg) := inb_of As325 ⟨by decide, by decide⟩
  obtain ⟨T325, h325, X325, e325, W325, st325⟩ := stR X323 hx hZ e323 Ar325 (j := (7 : Int32)) hin325 rfl (Sto.ofV Ar325 Aq325 O2 (Ins.self f303)) (g := (mkF m 54 #[.val (.int p1), .unset, .unset, .unset] [(.ref s_GREATER), (.int (7 : Int32)), (.ref b2), (.ref b2)])) rfl rfl (hb hby at_54)
  have pre326 : ∀ tq, Steps p.tables e below (T325.setTop (mkF m 55 #[.val (.int p1), .unset, .unset, .unset] [(.ref b2)])) tq → Steps p.tables e below (s₁.setTop (entryFrame m #[(.int p1)] maxLocals)) tq := fun tq kq => pre324 tq (st325 _ kq)
  have N325 := Fr.snoc X325 N286 g_b2
  have K325 : Keep h0 h325 [] := Keep.wr K286 W325 (Or.inr sz_b2)
  have f327 := f288.wr W325
  have f328 := f289.wr W325
  have f329 := f290.wr W325
  have f330 := f291.wr W325
  have f331 := f292.wr W325
  have f332 := f293.wr W325
  have f333 := f294.wr W325
  have f334 := f295.wr W325
  have f335 := f296.wr W325
  have f336 := f297.wr W325
  have f337 := f298.wr W325
  have f338 := f299.wr W325
  have f339 := f300.wr W325
  have f340 := f301.wr W325
  have f341 := f302.wr W325
  have f342 := f303.wr W325
  have f343 := f304.wr W325
  have f344 := f305.wr W325
  have f345 := f306.wr W325
  have f346 := f307.wr W325
  have f347 := f308.wr W325
  have f348 := f309.wr W325
  have f349 := f310.other W325 (Or.inl ne3)
  have f350 := f311.other W325 (Or.inl ne6)
  have f351 := f312.other W325 (Or.inl ne10)
  have f352 := f313.other W325 (Or.inl ne11)
  have f353 := f314.other W325 (Or.inl ne5)
  have f354 := f315.other W325 (Or.inl ne13)
  have f355 := f316.other W325 (Or.inl ne4)
  have f356 := f317.other W325 (Or.inl ne12)
  have f357 := f318.other W325 (Or.inl ne8)
  have f358 := f319.other W325 (Or.inl ne9)
  have f359 := f320.other W325 (Or.inl ne7)
  have f360 : Arv Z h325 b2 k2 (.object "com/example/tidemark/tidemark/Expression$Operator") (11 : Int32) [(.ref s_TIMES), (.ref s_DIVIDE), (.ref s_REMAINDER), (.ref s_PLUS), (.ref s_MINUS), (.ref s_LESS), (.ref s_LESS_OR_EQUAL), (.ref s_GREATER), .null, .null, .null] .null := Arv.set Ar325 Aq325 As325 An325 Ah325 Ag325 rfl W325 7 rfl (Nat.le_of_ble_eq_true rfl)
  have pre361 : ∀ tq, Steps p.tables e below (T325.setTop (mkF m 58 #[.val (.int p1), .unset, .unset, .unset] [(.int (8 : Int32)), (.ref b2), (.ref b2)])) tq → Steps p.tables e below (s₁.setTop (entryFrame m #[(.int p1)] maxLocals)) tq := by
    refine fun tq kq => pre326 tq ?_
    show Steps p.tables e below (T325.setTop (mkF m 55 #[.val (.int p1), .unset, .unset, .unset] [(.ref b2)])) _
    refine XS.dup X325.here hx rfl (hb hby at_55) rfl rfl ?_
    show Steps p.tables e below (T325.setTop (mkF m 56 #[.val (.int p1), .unset, .unset, .unset] [(.ref b2), (.ref b2)])) _
    refine XS.bipush X325.here hx rfl (hb hby at_56) ?_
    exact kq
  obtain ⟨T362, X362, e362, st362⟩ := getS2 X325 hx hZ hown (host := "") (Or.inl (hw _ (List.mem_of_getElem? (i := 20) rfl))) Via.refl e325 f343 (g := (mkF m 58 #[.val (.int p1), .unset, .unset, .unset] [(.int (8 : Int32)), (.ref b2), (.ref b2)])) rfl (hb hby at_58)
  have pre363 : ∀ tq, Steps p.tables e below (T362.setTop (mkF m 61 #[.val (.int p1), .unset, .unset, .unset] [(.ref s_GREATER_OR_EQUAL), (.int (8 : Int32)), (.ref b2), (.ref b2)])) tq → Steps p.tables e below (s₁.setTop (entryFrame m #[(.int p1)] maxLocals)) tq := fun tq kq => pre361 tq (st362 _ kq)
  have Vc364 := f360
  obtain ⟨cl364, Ar364, Aq364, As364, An364, Ah364, Ag364⟩ := Vc364
  have hin364 : ¬ ((8 : Int32) < 0 ∨ cl364.slots.size ≤ ((8 : Int32)).toNatClampNeg) := inb_of As364 ⟨by decide, by decide⟩
  obtain ⟨T364, h364, X364, e364, W364, st364⟩ := stR X362 hx hZ e362 Ar364 (j := (8 : Int32)) hin364 rfl (Sto.ofV Ar364 Aq364 O2 (Ins.self f344)) (g := (mkF m 61 #[.val (.int p1), .unset, .unset, .unset] [(.ref s_GREATER_OR_EQUAL), (.int (8 : Int32)), (.ref b2), (.ref b2)])) rfl rfl (hb hby at_61)
  have pre365 : ∀ tq, Steps p.tables e below (T364.setTop (mkF m 62 #[.val (.int p1), .unset, .unset, .unset] [(.ref b2)])) tq → Steps p.tables e below (s₁.setTop (entryFrame m #[(.int p1)] maxLocals)) tq := fun tq kq => pre363 tq (st364 _ kq)
  have N364 := Fr.snoc X364 N325 g_b2
  have K364 : Keep h0 h364 [] := Keep.wr K325 W364 (Or.inr sz_b2)
  have f366 := f327.wr W364
  have f367 := f328.wr W364
  have f368 := f329.wr W364
  have f369 := f330.wr W364
  have f370 := f331.wr W364
  have f371 := f332.wr W364
  have f372 := f333.wr W364
  have f373 := f334.wr W364
  have f374 := f335.wr W364
  have f375 := f336.wr W364
  have f376 := f337.wr W364
  have f377 := f338.wr W364
  have f378 := f339.wr W364
  have f379 := f340.wr W364
  have f380 := f341.wr W364
  have f381 := f342.wr W364
  have f382 := f343.wr W364
  have f383 := f344.wr W364
  have f384 := f345.wr W364
  have f385 := f346.wr W364
  have f386 := f347.wr W364
  have f387 := f348.wr W364
  have f388 := f349.other W364 (Or.inl ne3)
  have f389 := f350.other W364 (Or.inl ne6)
  have f390 := f351.other W364 (Or.inl ne10)
  have f391 := f352.other W364 (Or.inl ne11)
  have f392 := f353.other W364 (Or.inl ne5)
  have f393 := f354.other W364 (Or.inl ne13)
  have f394 := f355.other W364 (Or.inl ne4)
  have f395 := f356.other W364 (Or.inl ne12)
  have f396 := f357.other W364 (Or.inl ne8)
  have f397 := f358.other W364 (Or.inl ne9)
  have f398 := f359.other W364 (Or.inl ne7)
  have f399 : Arv Z h364 b2 k2 (.object "com/example/tidemark/tidemark/Expression$Operator") (11 : Int32) [(.ref s_TIMES), (.ref s_DIVIDE), (.ref s_REMAINDER), (.ref s_PLUS), (.ref s_MINUS), (.ref s_LESS), (.ref s_LESS_OR_EQUAL), (.ref s_GREATER), (.ref s_GREATER_OR_EQUAL), .null, .null] .null := Arv.set Ar364 Aq364 As364 An364 Ah364 Ag364 rfl W364 8 rfl (Nat.le_of_ble_eq_true rfl)
  have pre400 : ∀ tq, Steps p.tables e below (T364.setTop (mkF m 65 #[.val (.int p1), .unset, .unset, .unset] [(.int (9 : Int32)), (.ref b2), (.ref b2)])) tq → Steps p.tables e below (s₁.setTop (entryFrame m #[(.int p1)] maxLocals)) tq := by
    refine fun tq kq => pre365 tq ?_
    show Steps p.tables e below (T364.setTop (mkF m 62 #[.val (.int p1), .unset, .unset, .unset] [(.ref b2)])) _
    refine XS.dup X364.here hx rfl (hb hby at_62) rfl rfl ?_
    show Steps p.tables e below (T364.setTop (mkF m 63 #[.val (.int p1), .unset, .unset, .unset] [(.ref b2), (.ref b2)])) _
    refine XS.bipush X364.here hx rfl (hb hby at_63) ?_
    exact kq
  obtain ⟨T401, X401, e401, st401⟩ := getS2 X364 hx hZ hown (host := "") (Or.inl (hw _ (List.mem_of_getElem? (i := 22) rfl))) Via.refl e364 f384 (g := (mkF m 65 #[.val (.int p1), .unset, .unset, .unset] [(.int (9 : Int32)), (.ref b2), (.ref b2)])) rfl (hb hby at_65)
  have pre402 : ∀ tq, Steps p.tables e below (T401.setTop (mkF m 68 #[.val (.int p1), .unset, .unset, .unset] [(.ref s_EQUAL), (.int (9 : Int32)), (.ref b2), (.ref b2)])) tq → Steps p.tables e below (s₁.setTop (entryFrame m #[(.int p1)] maxLocals)) tq := fun tq kq => pre400 tq (st401 _ kq)
  have Vc403 := f399
  obtain ⟨cl403, Ar403, Aq403, As403, An403, Ah403, Ag403⟩ := Vc403
  have hin403 : ¬ ((9 : Int32) < 0 ∨ cl403.slots.size ≤ ((9 : Int32)).toNatClampNeg) := inb_of As403 ⟨by decide, by decide⟩
  obtain ⟨T403, h403, X403, e403, W403, st403⟩ := stR X401 hx hZ e401 Ar403 (j := (9 : Int32)) hin403 rfl (Sto.ofV Ar403 Aq403 O2 (Ins.self f385)) (g := (mkF m 68 #[.val (.int p1), .unset, .unset, .unset] [(.ref s_EQUAL), (.int (9 : Int32)), (.ref b2), (.ref b2)])) rfl rfl (hb hby at_68)
  have pre404 : ∀ tq, Steps p.tables e below (T403.setTop (mkF m 69 #[.val (.int p1), .unset, .unset, .unset] [(.ref b2)])) tq → Steps p.tables e below (s₁.setTop (entryFrame m #[(.int p1)] maxLocals)) tq := fun tq kq => pre402 tq (st403 _ kq)
  have N403 := Fr.snoc X403 N364 g_b2
  have K403 : Keep h0 h403 [] := Keep.wr K364 W403 (Or.inr sz_b2)
  have f405 := f366.wr W403
  have f406 := f367.wr W403
  have f407 := f368.wr W403
  have f408 := f369.wr W403
  have f409 := f370.wr W403
  have f410 := f371.wr W403
  have f411 := f372.wr W403
  have f412 := f373.wr W403
  have f413 := f374.wr W403
  have f414 := f375.wr W403
  have f415 := f376.wr W403
  have f416 := f377.wr W403
  have f417 := f378.wr W403
  have f418 := f379.wr W403
  have f419 := f380.wr W403
  have f420 := f381.wr W403
  have f421 := f382.wr W403
  have f422 := f383.wr W403
  have f423 := f384.wr W403
  have f424 := f385.wr W403
  have f425 := f386.wr W403
  have f426 := f387.wr W403
  have f427 := f388.other W403 (Or.inl ne3)
  have f428 := f389.other W403 (Or.inl ne6)
  have f429 := f390.other W403 (Or.inl ne10)
  have f430 := f391.other W403 (Or.inl ne11)
  have f431 := f392.other W403 (Or.inl ne5)
  have f432 := f393.other W403 (Or.inl ne13)
  have f433 := f394.other W403 (Or.inl ne4)
  have f434 := f395.other W403 (Or.inl ne12)
  have f435 := f396.other W403 (Or.inl ne8)
  have f436 := f397.other W403 (Or.inl ne9)
  have f437 := f398.other W403 (Or.inl ne7)
  have f438 : Arv Z h403 b2 k2 (.object "com/example/tidemark/tidemark/Expression$Operator") (11 : Int32) [(.ref s_TIMES), (.ref s_DIVIDE), (.ref s_REMAINDER), (.ref s_PLUS), (.ref s_MINUS), (.ref s_LESS), (.ref s_LESS_OR_EQUAL), (.ref s_GREATER), (.ref s_GREATER_OR_EQUAL), (.ref s_EQUAL), .null] .null := Arv.set Ar403 Aq403 As403 An403 Ah403 Ag403 rfl W403 9 rfl (Nat.le_of_ble_eq_true rfl)
  have pre439 : ∀ tq, Steps p.tables e below (T403.setTop (mkF m 72 #[.val (.int p1), .unset, .unset, .unset] [(.int (10 : Int32)), (.ref b2), (.ref b2)])) tq → Steps p.tables e below (s₁.setTop (entryFrame m #[(.int p1)] maxLocals)) tq := by
    refine fun tq kq => pre404 tq ?_
    show Steps p.tables e below (T403.setTop (mkF m 69 #[.val (.int p1), .unset, .unset, .unset] [(.ref b2)])) _
    refine XS.dup X403.here hx rfl (hb hby at_69) rfl rfl ?_
    show Steps p.tables e below (T403.setTop (mkF m 70 #[.val (.int p1), .unset, .unset, .unset] [(.ref b2), (.ref b2)])) _
    refine XS.bipush X403.here hx rfl (hb hby at_70) ?_
    exact kq
  obtain ⟨T440, X440, e440, st440⟩ := getS2 X403 hx hZ hown (host := "") (Or.inl (hw _ (List.mem_of_getElem? (i := 24) rfl))) Via.refl e403 f425 (g := (mkF m 72 #[.val (.int p1), .unset, .unset, .unset] [(.int (10 : Int32)), (.ref b2), (.ref b2)])) rfl (hb hby at_72)
  have pre441 : ∀ tq, Steps p.tables e below (T440.setTop (mkF m 75 #[.val (.int p1), .unset, .unset, .unset] [(.ref s_NOT_EQUAL), (.int (10 : Int32)), (.ref b2), (.ref b2)])) tq → Steps p.tables e below (s₁.setTop (entryFrame m #[(.int p1)] maxLocals)) tq := fun tq kq => pre439 tq (st440 _ kq)
  have Vc442 := f438
  obtain ⟨cl442, Ar442, Aq442, As442, An442, Ah442, Ag442⟩ := Vc442
  have hin442 : ¬ ((10 : Int32) < 0 ∨ cl442.slots.size ≤ ((10 : Int32)).toNatClampNeg) := inb_of As442 ⟨by decide, by decide⟩
  obtain ⟨T442, h442, X442, e442, W442, st442⟩ := stR X440 hx hZ e440 Ar442 (j := (10 : Int32)) hin442 rfl (Sto.ofV Ar442 Aq442 O2 (Ins.self f426)) (g := (mkF m 75 #[.val (.int p1), .unset, .unset, .unset] [(.ref s_NOT_EQUAL), (.int (10 : Int32)), (.ref b2), (.ref b2)])) rfl rfl (hb hby at_75)
  have pre443 : ∀ tq, Steps p.tables e below (T442.setTop (mkF m 76 #[.val (.int p1), .unset, .unset, .unset] [(.ref b2)])) tq → Steps p.tables e below (s₁.setTop (entryFrame m #[(.int p1)] maxLocals)) tq := fun tq kq => pre441 tq (st442 _ kq)
  have N442 := Fr.snoc X442 N403 g_b2
  have K442 : Keep h0 h442 [] := Keep.wr K403 W442 (Or.inr sz_b2)
  have f444 := f405.wr W442
  have f445 := f406.wr W442
  have f446 := f407.wr W442
  have f447 := f408.wr W442
  have f448 := f409.wr W442
  have f449 := f410.wr W442
  have f450 := f411.wr W442
  have f451 := f412.wr W442
  have f452 := f413.wr W442
  have f453 := f414.wr W442
  have f454 := f415.wr W442
  have f455 := f416.wr W442
  have f456 := f417.wr W442
  have f457 := f418.wr W442
  have f458 := f419.wr W442
  have f459 := f420.wr W442
  have f460 := f421.wr W442
  have f461 := f422.wr W442
  have f462 := f423.wr W442
  have f463 := f424.wr W442
  have f464 := f425.wr W442
  have f465 := f426.wr W442
  have f466 := f427.other W442 (Or.inl ne3)
  have f467 := f428.other W442 (Or.inl ne6)
  have f468 := f429.other W442 (Or.inl ne10)
  have f469 := f430.other W442 (Or.inl ne11)
  have f470 := f431.other W442 (Or.inl ne5)
  have f471 := f432.other W442 (Or.inl ne13)
  have f472 := f433.other W442 (Or.inl ne4)
  have f473 := f434.other W442 (Or.inl ne12)
  have f474 := f435.other W442 (Or.inl ne8)
  have f475 := f436.other W442 (Or.inl ne9)
  have f476 := f437.other W442 (Or.inl ne7)
  have f477 : Arv Z h442 b2 k2 (.object "com/example/tidemark/tidemark/Expression$Operator") (11 : Int32) [(.ref s_TIMES), (.ref s_DIVIDE), (.ref s_REMAINDER), (.ref s_PLUS), (.ref s_MINUS), (.ref s_LESS), (.ref s_LESS_OR_EQUAL), (.ref s_GREATER), (.ref s_GREATER_OR_EQUAL), (.ref s_EQUAL), (.ref s_NOT_EQUAL)] .null := Arv.set Ar442 Aq442 As442 An442 Ah442 Ag442 rfl W442 10 rfl (Nat.le_of_ble_eq_true rfl)
  obtain ⟨v479, hv_v479, pre478⟩ : ∃ v479 : Int32, v479 = ((p1 &&& (2147483647 : Int32)) - ((p1 &&& (2147483647 : Int32)) / (11 : Int32)) * (11 : Int32)) ∧ (∀ tq, Steps p.tables e below (T442.setTop (mkF m 85 #[.val (.int p1), .val (.ref b2), .val (.int v479), .unset] [])) tq → Steps p.tables e below (s₁.setTop (entryFrame m #[(.int p1)] maxLocals)) tq) := by
    refine ⟨_, rfl, fun tq kq => pre443 tq ?_⟩
    show Steps p.tables e below (T442.setTop (mkF m 76 #[.val (.int p1), .unset, .unset, .unset] [(.ref b2)])) _
    refine XS.astoreN X442.here hx rfl (hb hby at_76) rfl rfl (l' := #[.val (.int p1), .val (.ref b2), .unset, .unset]) rfl ?_
    show Steps p.tables e below (T442.setTop (mkF m 77 #[.val (.int p1), .val (.ref b2), .unset, .unset] [])) _
    refine XS.iloadN X442.here hx rfl (hb hby at_77) rfl ?_
    show Steps p.tables e below (T442.setTop (mkF m 78 #[.val (.int p1), .val (.ref b2), .unset, .unset] [(.int p1)])) _
    refine X442.ldcInt hx hown (mvT hZ (hw _ (List.mem_of_getElem? (i := 26) rfl))) (g := (mkF m 78 #[.val (.int p1), .val (.ref b2), .unset, .unset] [(.int p1)])) rfl (hb hby at_78) _ ?_
    show Steps p.tables e below (T442.setTop (mkF m 80 #[.val (.int p1), .val (.ref b2), .unset, .unset] [(.int (2147483647 : Int32)), (.int p1)])) _
    refine XS.iand X442.here hx rfl (hb hby at_80) rfl ?_
    show Steps p.tables e below (T442.setTop (mkF m 81 #[.val (.int p1), .val (.ref b2), .unset, .unset] [(.int (p1 &&& (2147483647 : Int32)))])) _
    refine XS.bipush X442.here hx rfl (hb hby at_81) ?_
    show Steps p.tables e below (T442.setTop (mkF m 83 #[.val (.int p1), .val (.ref b2), .unset, .unset] [(.int (11 : Int32)), (.int (p1 &&& (2147483647 : Int32)))])) _
    refine XS.irem X442.here hx rfl (hb hby at_83) rfl (by decide) ?_
    show Steps p.tables e below (T442.setTop (mkF m 84 #[.val (.int p1), .val (.ref b2), .unset, .unset] [(.int ((p1 &&& (2147483647 : Int32)) - ((p1 &&& (2147483647 : Int32)) / (11 : Int32)) * (11 : Int32)))])) _
    refine XS.istoreN X442.here hx rfl (hb hby at_84) rfl (l' := #[.val (.int p1), .val (.ref b2), .val (.int ((p1 &&& (2147483647 : Int32)) - ((p1 &&& (2147483647 : Int32)) / (11 : Int32)) * (11 : Int32))), .unset]) rfl ?_
    exact kq
  have hcs85 : v479 = (0 : Int32) ∨ v479 = (1 : Int32) ∨ v479 = (2 : Int32) ∨ v479 = (3 : Int32) ∨ v479 = (4 : Int32) ∨ v479 = (5 : Int32) ∨ v479 = (6 : Int32) ∨ v479 = (7 : Int32) ∨ v479 = (8 : Int32) ∨ v479 = (9 : Int32) ∨ v479 = (10 : Int32) := by
    have q := own_mr p1 (11 : Int32) (by decide)
    rw [← hv_v479] at q
    exact own_11 q.1 q.2
  rcases hcs85 with hk | hk | hk | hk | hk | hk | hk | hk | hk | hk | hk
  · skip
    subst hk
    have pre480 : ∀ tq, Steps p.tables e below (T442.setTop (mkF m 94 #[.val (.int p1), .val (.ref b2), .val (.int (0 : Int32)), .unset] [])) tq → Steps p.tables e below (s₁.setTop (entryFrame m #[(.int p1)] maxLocals)) tq := by
      refine fun tq kq => pre478 tq ?_
      show Steps p.tables e below (T442.setTop (mkF m 85 #[.val (.int p1), .val (.ref b2), .val (.int (0 : Int32)), .unset] [])) _
      refine XS.iloadN X442.here hx rfl (hb hby at_85) rfl ?_
      show Steps p.tables e below (T442.setTop (mkF m 86 #[.val (.int p1), .val (.ref b2), .val (.int (0 : Int32)), .unset] [(.int (0 : Int32))])) _
      refine XS.iconst X442.here hx rfl (hb hby at_86) ?_
      show Steps p.tables e below (T442.setTop (mkF m 87 #[.val (.int p1), .val (.ref b2), .val (.int (0 : Int32)), .unset] [(.int (5 : Int32)), (.int (0 : Int32))])) _
      refine XS.icmpYes X442.here hx rfl (pc0 := 87) (pc' := 94) rfl (hb hby at_87) rfl (tlt (by decide : (0 : Int32) < (5 : Int32))).1 (by decide) (by decide) ?_
      exact kq
    have pre481 : ∀ tq, Steps p.tables e below (T442.setTop (mkF m 98 #[.val (.int p1), .val (.ref b2), .val (.int (0 : Int32)), .val (.int (0 : Int32))] [(.int (0 : Int32)), (.ref b2)])) tq → Steps p.tables e below (s₁.setTop (entryFrame m #[(.int p1)] maxLocals)) tq := by
      refine fun tq kq => pre480 tq ?_
      show Steps p.tables e below (T442.setTop (mkF m 94 #[.val (.int p1), .val (.ref b2), .val (.int (0 : Int32)), .unset] [])) _
      refine XS.iconst X442.here hx rfl (hb hby at_94) ?_
      show Steps p.tables e below (T442.setTop (mkF m 95 #[.val (.int p1), .val (.ref b2), .val (.int (0 : Int32)), .unset] [(.int (0 : Int32))])) _
      refine XS.istoreN X442.here hx rfl (hb hby at_95) rfl (l' := #[.val (.int p1), .val (.ref b2), .val (.int (0 : Int32)), .val (.int (0 : Int32))]) rfl ?_
      show Steps p.tables e below (T442.setTop (mkF m 96 #[.val (.int p1), .val (.ref b2), .val (.int (0 : Int32)), .val (.int (0 : Int32))] [])) _
      refine XS.aloadN X442.here hx rfl (hb hby at_96) rfl rfl ?_
      show Steps p.tables e below (T442.setTop (mkF m 97 #[.val (.int p1), .val (.ref b2), .val (.int (0 : Int32)), .val (.int (0 : Int32))] [(.ref b2)])) _
      refine XS.iloadN X442.here hx rfl (hb hby at_97) rfl ?_
      exact kq
    have Vc482 := f477
    obtain ⟨cl482, Ar482, Aq482, As482, An482, Ah482, Ag482⟩ := Vc482
    have hin482 : ¬ ((0 : Int32) < 0 ∨ cl482.slots.size ≤ ((0 : Int32)).toNatClampNeg) := inb_of As482 ⟨by decide, by decide⟩
    have pre483 : ∀ tq, Steps p.tables e below (T442.setTop (mkF m 99 #[.val (.int p1), .val (.ref b2), .val (.int (0 : Int32)), .val (.int (0 : Int32))] [(.ref s_TIMES)])) tq → Steps p.tables e below (s₁.setTop (entryFrame m #[(.int p1)] maxLocals)) tq := fun tq kq => pre481 tq (X442.aaload hx (j := (0 : Int32)) (v := (.ref s_TIMES)) (by rw [e442]; exact Ar482.1) (State.isArrayOf_alike hZ.alike Ar482.2.1) rfl Ar482.2.2 hin482 (Has.at Ah482 hin482 rfl) (g := (mkF m 98 #[.val (.int p1), .val (.ref b2), .val (.int (0 : Int32)), .val (.int (0 : Int32))] [(.int (0 : Int32)), (.ref b2)])) rfl rfl (hb hby at_98) _ kq)
    have Z484 : n0 ≤ h442.size := (Nat.le_trans (Nat.le_trans (Nat.le_trans (Nat.le_trans (Nat.le_trans (Nat.le_trans (Nat.le_trans (Nat.le_trans (Nat.le_trans (Nat.le_trans (Nat.le_trans (Nat.le_trans Z0 E2.1) (Keep.of_wr W52).1) (Keep.of_wr W91).1) (Keep.of_wr W130).1) (Keep.of_wr W169).1) (Keep.of_wr W208).1) (Keep.of_wr W247).1) (Keep.of_wr W286).1) (Keep.of_wr W325).1) (Keep.of_wr W364).1) (Keep.of_wr W403).1) (Keep.of_wr W442).1)
    obtain ⟨cq484, kq484, q484a, q484b, q484c⟩ := isOf hZ e442 f445
    obtain ⟨_, _, ⟨T484, L484, k484, n484⟩, -, X484, ⟨Lc484, hQ484, l484, y484, z484⟩, st484⟩ := X442.virtualBack hx (y := (⟨"com/example/tidemark/tidemark/Expression$Operator", "compares", "()Z"⟩ : MethodName)) (z := (⟨"com/example/tidemark/tidemark/Expression$Operator", "compares", "()Z"⟩ : MethodName)) hown (mvT hZ (hw _ (List.mem_of_getElem? (i := 27) rfl))) (mvT hZ (hw _ (List.mem_of_getElem? (i := 28) rfl))) (notFace_of_selects (args := #[]) (mvT hZ (hw _ (List.mem_of_getElem? (i := 30) rfl)))) (mvT hZ (hw _ (List.mem_of_getElem? (i := 30) rfl))) (mvT hZ (hw _ (List.mem_of_getElem? (i := 29) rfl))) (by decide) (backOf (W := 0) (rm1 l Z a0 hw [] s_TIMES (0 : Int32) h442 n0 Z484 f466) hZ (hw _ (List.mem_of_getElem? (i := 31) rfl)) (hw _ (List.mem_of_getElem? (i := 3) rfl)) (by decide) (by decide)) q484a q484c (g := (mkF m 99 #[.val (.int p1), .val (.ref b2), .val (.int (0 : Int32)), .val (.int (0 : Int32))] [(.ref s_TIMES)])) rfl (by rw [hml]; rfl) (Steps.refl _) (argsL := []) (rest := []) (lenOf pd0_0 rfl) rfl (by show 2 * 0 + _ ≤ _; exact Nat.le_of_eq rfl) (hb hby at_99) (fun _ _ => ⟨rfl, e442, (by decide : (0 + 1) + 0 ≤ _), (by decide : (0 + 11) + 0 ≤ _)⟩)
    dsimp only [Pt.U, Pt.locs, Pt.cells, Pt.slots] at X484 l484 y484 z484 st484 hQ484
    subst l484 y484 z484
    obtain ⟨r485, rfl, Nq484, ehq484, hq484⟩ := hQ484
    have N484 := Fr.app N442 Nq484
    have pre486 : ∀ tq, Steps p.tables e below (T484.setTop (mkF m 102 #[.val (.int p1), .val (.ref b2), .val (.int (0 : Int32)), .val (.int (0 : Int32))] [(.int r485)])) tq → Steps p.tables e below (s₁.setTop (entryFrame m #[(.int p1)] maxLocals)) tq := fun tq kq => pre483 tq (st484.trans kq)
    obtain ⟨v487, hj488, pre488⟩ : ∃ v487 : Int32, ((r485 = (0 : Int32) ∧ v487 = (1 : Int32)) ∨ (¬ (r485 = (0 : Int32)) ∧ v487 = (0 : Int32))) ∧ (∀ tq, Steps p.tables e below (T484.setTop (mkF m 111 #[.val (.int p1), .val (.ref b2), .val (.int (0 : Int32)), .val (.int (0 : Int32))] [(.int v487)])) tq → Steps p.tables e below (s₁.setTop (entryFrame m #[(.int p1)] maxLocals)) tq) := by
      by_cases hb0_103 : r485 = (0 : Int32)
      · skip
        refine ⟨(1 : Int32), Or.inl (⟨hb0_103, rfl⟩), fun tq kq => pre486 tq ?_⟩
        show Steps p.tables e below (T484.setTop (mkF m 102 #[.val (.int p1), .val (.ref b2), .val (.int (0 : Int32)), .val (.int (0 : Int32))] [(.int r485)])) _
        refine XS.iloadN X484.here hx rfl (hb hby at_102) rfl ?_
        show Steps p.tables e below (T484.setTop (mkF m 103 #[.val (.int p1), .val (.ref b2), .val (.int (0 : Int32)), .val (.int (0 : Int32))] [(.int (0 : Int32)), (.int r485)])) _
        refine XS.icmpNo X484.here hx rfl (hb hby at_103) rfl (teq hb0_103).2 ?_
        show Steps p.tables e below (T484.setTop (mkF m 106 #[.val (.int p1), .val (.ref b2), .val (.int (0 : Int32)), .val (.int (0 : Int32))] [])) _
        refine XS.iconst X484.here hx rfl (hb hby at_106) ?_
        show Steps p.tables e below (T484.setTop (mkF m 107 #[.val (.int p1), .val (.ref b2), .val (.int (0 : Int32)), .val (.int (0 : Int32))] [(.int (1 : Int32))])) _
        refine XS.goto X484.here hx rfl (pc0 := 107) (pc' := 111) rfl (hb hby at_107) (by decide) (by decide) ?_
        exact kq
      · skip
        refine ⟨(0 : Int32), Or.inr (⟨hb0_103, rfl⟩), fun tq kq => pre486 tq ?_⟩
        show Steps p.tables e below (T484.setTop (mkF m 102 #[.val (.int p1), .val (.ref b2), .val (.int (0 : Int32)), .val (.int (0 : Int32))] [(.int r485)])) _
        refine XS.iloadN X484.here hx rfl (hb hby at_102) rfl ?_
        show Steps p.tables e below (T484.setTop (mkF m 103 #[.val (.int p1), .val (.ref b2), .val (.int (0 : Int32)), .val (.int (0 : Int32))] [(.int (0 : Int32)), (.int r485)])) _
        refine XS.icmpYes X484.here hx rfl (pc0 := 103) (pc' := 110) rfl (hb hby at_103) rfl (feq hb0_103).2 (by decide) (by decide) ?_
        show Steps p.tables e below (T484.setTop (mkF m 110 #[.val (.int p1), .val (.ref b2), .val (.int (0 : Int32)), .val (.int (0 : Int32))] [])) _
        refine XS.iconst X484.here hx rfl (hb hby at_110) ?_
        exact kq
    have hfin : v487 = 1 := by
      simp only [Int32.lt_iff_toInt_lt, ← Int32.toInt_inj, Int32.reduceToInt, true_and, and_true, false_and, and_false, or_false, false_or, not_true_eq_false, not_false_eq_true, true_implies, false_implies] at hq484 hj488 ⊢ <;> omega
    subst hfin
    obtain ⟨fs, hr, hrun, hended, hW, hsame⟩ := X484.leave (v := some (.int (1 : Int32))) (fun h => by rw [Bd.returns] at h; cases h)
    refine ⟨_, _, pre488 _ ?_, hrun, hended, _, _, rfl, ?_, ⟨_, rfl⟩, hW, hsame.mono (by decide) (by decide)⟩
    · skip
      show Steps p.tables e below (T484.setTop (mkF m 111 #[.val (.int p1), .val (.ref b2), .val (.int (0 : Int32)), .val (.int (0 : Int32))] [(.int (1 : Int32))])) _
      exact retN X484 hx (t := .boolean) Bd.returns (by simp) (hb hby at_111) hr
    · show Q0 Z p1 s_TIMES s_DIVIDE s_REMAINDER s_PLUS s_MINUS s_LESS s_LESS_OR_EQUAL s_GREATER s_GREATER_OR_EQUAL s_EQUAL s_NOT_EQUAL h0 n0 _ T484.heap _
      rw [ehq484]
      exact ⟨rfl, N484⟩
  · skip
    subst hk
    have pre489 : ∀ tq, Steps p.tables e below (T442.setTop (mkF m 94 #[.val (.int p1), .val (.ref b2), .val (.int (1 : Int32)), .unset] [])) tq → Steps p.tables e below (s₁.setTop (entryFrame m #[(.int p1)] maxLocals)) tq := by
      refine fun tq kq => pre478 tq ?_
      show Steps p.tables e below (T442.setTop (mkF m 85 #[.val (.int p1), .val (.ref b2), .val (.int (1 : Int32)), .unset] [])) _
      refine XS.iloadN X442.here hx rfl (hb hby at_85) rfl ?_
      show Steps p.tables e below (T442.setTop (mkF m 86 #[.val (.int p1), .val (.ref b2), .val (.int (1 : Int32)), .unset] [(.int (1 : Int32))])) _
      refine XS.iconst X442.here hx rfl (hb hby at_86) ?_
      show Steps p.tables e below (T442.setTop (mkF m 87 #[.val (.int p1), .val (.ref b2), .val (.int (1 : Int32)), .unset] [(.int (5 : Int32)), (.int (1 : Int32))])) _
      refine XS.icmpYes X442.here hx rfl (pc0 := 87) (pc' := 94) rfl (hb hby at_87) rfl (tlt (by decide : (1 : Int32) < (5 : Int32))).1 (by decide) (by decide) ?_
      exact kq
    have pre490 : ∀ tq, Steps p.tables e below (T442.setTop (mkF m 98 #[.val (.int p1), .val (.ref b2), .val (.int (1 : Int32)), .val (.int (0 : Int32))] [(.int (1 : Int32)), (.ref b2)])) tq → Steps p.tables e below (s₁.setTop (entryFrame m #[(.int p1)] maxLocals)) tq := by
      refine fun tq kq => pre489 tq ?_
      show Steps p.tables e below (T442.setTop (mkF m 94 #[.val (.int p1), .val (.ref b2), .val (.int (1 : Int32)), .unset] [])) _
      refine XS.iconst X442.here hx rfl (hb hby at_94) ?_
      show Steps p.tables e below (T442.setTop (mkF m 95 #[.val (.int p1), .val (.ref b2), .val (.int (1 : Int32)), .unset] [(.int (0 : Int32))])) _
      refine XS.istoreN X442.here hx rfl (hb hby at_95) rfl (l' := #[.val (.int p1), .val (.ref b2), .val (.int (1 : Int32)), .val (.int (0 : Int32))]) rfl ?_
      show Steps p.tables e below (T442.setTop (mkF m 96 #[.val (.int p1), .val (.ref b2), .val (.int (1 : Int32)), .val (.int (0 : Int32))] [])) _
      refine XS.aloadN X442.here hx rfl (hb hby at_96) rfl rfl ?_
      show Steps p.tables e below (T442.setTop (mkF m 97 #[.val (.int p1), .val (.ref b2), .val (.int (1 : Int32)), .val (.int (0 : Int32))] [(.ref b2)])) _
      refine XS.iloadN X442.here hx rfl (hb hby at_97) rfl ?_
      exact kq
    have Vc491 := f477
    obtain ⟨cl491, Ar491, Aq491, As491, An491, Ah491, Ag491⟩ := Vc491
    have hin491 : ¬ ((1 : Int32) < 0 ∨ cl491.slots.size ≤ ((1 : Int32)).toNatClampNeg) := inb_of As491 ⟨by decide, by decide⟩
    have pre492 : ∀ tq, Steps p.tables e below (T442.setTop (mkF m 99 #[.val (.int p1), .val (.ref b2), .val (.int (1 : Int32)), .val (.int (0 : Int32))] [(.ref s_DIVIDE)])) tq → Steps p.tables e below (s₁.setTop (entryFrame m #[(.int p1)] maxLocals)) tq := fun tq kq => pre490 tq (X442.aaload hx (j := (1 : Int32)) (v := (.ref s_DIVIDE)) (by rw [e442]; exact Ar491.1) (State.isArrayOf_alike hZ.alike Ar491.2.1) rfl Ar491.2.2 hin491 (Has.at Ah491 hin491 rfl) (g := (mkF m 98 #[.val (.int p1), .val (.ref b2), .val (.int (1 : Int32)), .val (.int (0 : Int32))] [(.int (1 : Int32)), (.ref b2)])) rfl rfl (hb hby at_98) _ kq)
    have Z493 : n0 ≤ h442.size := (Nat.le_trans (Nat.le_trans (Nat.le_trans (Nat.le_trans (Nat.le_trans (Nat.le_trans (Nat.le_trans (Nat.le_trans (Nat.le_trans (Nat.le_trans (Nat.le_trans (Nat.le_trans Z0 E2.1) (Keep.of_wr W52).1) (Keep.of_wr W91).1) (Keep.of_wr W130).1) (Keep.of_wr W169).1) (Keep.of_wr W208).1) (Keep.of_wr W247).1) (Keep.of_wr W286).1) (Keep.of_wr W325).1) (Keep.of_wr W364).1) (Keep.of_wr W403).1) (Keep.of_wr W442).1)
    obtain ⟨cq493, kq493, q493a, q493b, q493c⟩ := isOf hZ e442 f447
    obtain ⟨_, _, ⟨T493, L493, k493, n493⟩, -, X493, ⟨Lc493, hQ493, l493, y493, z493⟩, st493⟩ := X442.virtualBack hx (y := (⟨"com/example/tidemark/tidemark/Expression$Operator", "compares", "()Z"⟩ : MethodName)) (z := (⟨"com/example/tidemark/tidemark/Expression$Operator", "compares", "()Z"⟩ : MethodName)) hown (mvT hZ (hw _ (List.mem_of_getElem? (i := 27) rfl))) (mvT hZ (hw _ (List.mem_of_getElem? (i := 28) rfl))) (notFace_of_selects (args := #[]) (mvT hZ (hw _ (List.mem_of_getElem? (i := 30) rfl)))) (mvT hZ (hw _ (List.mem_of_getElem? (i := 30) rfl))) (mvT hZ (hw _ (List.mem_of_getElem? (i := 29) rfl))) (by decide) (backOf (W := 0) (rm1 l Z a0 hw [] s_DIVIDE (0 : Int32) h442 n0 Z493 f472) hZ (hw _ (List.mem_of_getElem? (i := 31) rfl)) (hw _ (List.mem_of_getElem? (i := 3) rfl)) (by decide) (by decide)) q493a q493c (g := (mkF m 99 #[.val (.int p1), .val (.ref b2), .val (.int (1 : Int32)), .val (.int (0 : Int32))] [(.ref s_DIVIDE)])) rfl (by rw [hml]; rfl) (Steps.refl _) (argsL := []) (rest := []) (lenOf pd0_0 rfl) rfl (by show 2 * 0 + _ ≤ _; exact Nat.le_of_eq rfl) (hb hby at_99) (fun _ _ => ⟨rfl, e442, (by decide : (0 + 1) + 0 ≤ _), (by decide : (0 + 11) + 0 ≤ _)⟩)
    dsimp only [Pt.U, Pt.locs, Pt.cells, Pt.slots] at X493 l493 y493 z493 st493 hQ493
    subst l493 y493 z493
    obtain ⟨r494, rfl, Nq493, ehq493, hq493⟩ := hQ493
    have N493 := Fr.app N442 Nq493
    have pre495 : ∀ tq, Steps p.tables e below (T493.setTop (mkF m 102 #[.val (.int p1), .val (.ref b2), .val (.int (1 : Int32)), .val (.int (0 : Int32))] [(.int r494)])) tq → Steps p.tables e below (s₁.setTop (entryFrame m #[(.int p1)] maxLocals)) tq := fun tq kq => pre492 tq (st493.trans kq)
    obtain ⟨v496, hj497, pre497⟩ : ∃ v496 : Int32, ((r494 = (0 : Int32) ∧ v496 = (1 : Int32)) ∨ (¬ (r494 = (0 : Int32)) ∧ v496 = (0 : Int32))) ∧ (∀ tq, Steps p.tables e below (T493.setTop (mkF m 111 #[.val (.int p1), .val (.ref b2), .val (.int (1 : Int32)), .val (.int (0 : Int32))] [(.int v496)])) tq → Steps p.tables e below (s₁.setTop (entryFrame m #[(.int p1)] maxLocals)) tq) := by
      by_cases hb0_103 : r494 = (0 : Int32)
      · skip
        refine ⟨(1 : Int32), Or.inl (⟨hb0_103, rfl⟩), fun tq kq => pre495 tq ?_⟩
        show Steps p.tables e below (T493.setTop (mkF m 102 #[.val (.int p1), .val (.ref b2), .val (.int (1 : Int32)), .val (.int (0 : Int32))] [(.int r494)])) _
        refine XS.iloadN X493.here hx rfl (hb hby at_102) rfl ?_
        show Steps p.tables e below (T493.setTop (mkF m 103 #[.val (.int p1), .val (.ref b2), .val (.int (1 : Int32)), .val (.int (0 : Int32))] [(.int (0 : Int32)), (.int r494)])) _
        refine XS.icmpNo X493.here hx rfl (hb hby at_103) rfl (teq hb0_103).2 ?_
        show Steps p.tables e below (T493.setTop (mkF m 106 #[.val (.int p1), .val (.ref b2), .val (.int (1 : Int32)), .val (.int (0 : Int32))] [])) _
        refine XS.iconst X493.here hx rfl (hb hby at_106) ?_
        show Steps p.tables e below (T493.setTop (mkF m 107 #[.val (.int p1), .val (.ref b2), .val (.int (1 : Int32)), .val (.int (0 : Int32))] [(.int (1 : Int32))])) _
        refine XS.goto X493.here hx rfl (pc0 := 107) (pc' := 111) rfl (hb hby at_107) (by decide) (by decide) ?_
        exact kq
      · skip
        refine ⟨(0 : Int32), Or.inr (⟨hb0_103, rfl⟩), fun tq kq => pre495 tq ?_⟩
        show Steps p.tables e below (T493.setTop (mkF m 102 #[.val (.int p1), .val (.ref b2), .val (.int (1 : Int32)), .val (.int (0 : Int32))] [(.int r494)])) _
        refine XS.iloadN X493.here hx rfl (hb hby at_102) rfl ?_
        show Steps p.tables e below (T493.setTop (mkF m 103 #[.val (.int p1), .val (.ref b2), .val (.int (1 : Int32)), .val (.int (0 : Int32))] [(.int (0 : Int32)), (.int r494)])) _
        refine XS.icmpYes X493.here hx rfl (pc0 := 103) (pc' := 110) rfl (hb hby at_103) rfl (feq hb0_103).2 (by decide) (by decide) ?_
        show Steps p.tables e below (T493.setTop (mkF m 110 #[.val (.int p1), .val (.ref b2), .val (.int (1 : Int32)), .val (.int (0 : Int32))] [])) _
        refine XS.iconst X493.here hx rfl (hb hby at_110) ?_
        exact kq
    have hfin : v496 = 1 := by
      simp only [Int32.lt_iff_toInt_lt, ← Int32.toInt_inj, Int32.reduceToInt, true_and, and_true, false_and, and_false, or_false, false_or, not_true_eq_false, not_false_eq_true, true_implies, false_implies] at hq493 hj497 ⊢ <;> omega
    subst hfin
    obtain ⟨fs, hr, hrun, hended, hW, hsame⟩ := X493.leave (v := some (.int (1 : Int32))) (fun h => by rw [Bd.returns] at h; cases h)
    refine ⟨_, _, pre497 _ ?_, hrun, hended, _, _, rfl, ?_, ⟨_, rfl⟩, hW, hsame.mono (by decide) (by decide)⟩
    · skip
      show Steps p.tables e below (T493.setTop (mkF m 111 #[.val (.int p1), .val (.ref b2), .val (.int (1 : Int32)), .val (.int (0 : Int32))] [(.int (1 : Int32))])) _
      exact retN X493 hx (t := .boolean) Bd.returns (by simp) (hb hby at_111) hr
    · show Q0 Z p1 s_TIMES s_DIVIDE s_REMAINDER s_PLUS s_MINUS s_LESS s_LESS_OR_EQUAL s_GREATER s_GREATER_OR_EQUAL s_EQUAL s_NOT_EQUAL h0 n0 _ T493.heap _
      rw [ehq493]
      exact ⟨rfl, N493⟩
  · skip
    subst hk
    have pre498 : ∀ tq, Steps p.tables e below (T442.setTop (mkF m 94 #[.val (.int p1), .val (.ref b2), .val (.int (2 : Int32)), .unset] [])) tq → Steps p.tables e below (s₁.setTop (entryFrame m #[(.int p1)] maxLocals)) tq := by
      refine fun tq kq => pre478 tq ?_
      show Steps p.tables e below (T442.setTop (mkF m 85 #[.val (.int p1), .val (.ref b2), .val (.int (2 : Int32)), .unset] [])) _
      refine XS.iloadN X442.here hx rfl (hb hby at_85) rfl ?_
      show Steps p.tables e below (T442.setTop (mkF m 86 #[.val (.int p1), .val (.ref b2), .val (.int (2 : Int32)), .unset] [(.int (2 : Int32))])) _
      refine XS.iconst X442.here hx rfl (hb hby at_86) ?_
      show Steps p.tables e below (T442.setTop (mkF m 87 #[.val (.int p1), .val (.ref b2), .val (.int (2 : Int32)), .unset] [(.int (5 : Int32)), (.int (2 : Int32))])) _
      refine XS.icmpYes X442.here hx rfl (pc0 := 87) (pc' := 94) rfl (hb hby at_87) rfl (tlt (by decide : (2 : Int32) < (5 : Int32))).1 (by decide) (by decide) ?_
      exact kq
    have pre499 : ∀ tq, Steps p.tables e below (T442.setTop (mkF m 98 #[.val (.int p1), .val (.ref b2), .val (.int (2 : Int32)), .val (.int (0 : Int32))] [(.int (2 : Int32)), (.ref b2)])) tq → Steps p.tables e below (s₁.setTop (entryFrame m #[(.int p1)] maxLocals)) tq := by
      refine fun tq kq => pre498 tq ?_
      show Steps p.tables e below (T442.setTop (mkF m 94 #[.val (.int p1), .val (.ref b2), .val (.int (2 : Int32)), .unset] [])) _
      refine XS.iconst X442.here hx rfl (hb hby at_94) ?_
      show Steps p.tables e below (T442.setTop (mkF m 95 #[.val (.int p1), .val (.ref b2), .val (.int (2 : Int32)), .unset] [(.int (0 : Int32))])) _
      refine XS.istoreN X442.here hx rfl (hb hby at_95) rfl (l' := #[.val (.int p1), .val (.ref b2), .val (.int (2 : Int32)), .val (.int (0 : Int32))]) rfl ?_
      show Steps p.tables e below (T442.setTop (mkF m 96 #[.val (.int p1), .val (.ref b2), .val (.int (2 : Int32)), .val (.int (0 : Int32))] [])) _
      refine XS.aloadN X442.here hx rfl (hb hby at_96) rfl rfl ?_
      show Steps p.tables e below (T442.setTop (mkF m 97 #[.val (.int p1), .val (.ref b2), .val (.int (2 : Int32)), .val (.int (0 : Int32))] [(.ref b2)])) _
      refine XS.iloadN X442.here hx rfl (hb hby at_97) rfl ?_
      exact kq
    have Vc500 := f477
    obtain ⟨cl500, Ar500, Aq500, As500, An500, Ah500, Ag500⟩ := Vc500
    have hin500 : ¬ ((2 : Int32) < 0 ∨ cl500.slots.size ≤ ((2 : Int32)).toNatClampNeg) := inb_of As500 ⟨by decide, by decide⟩
    have pre501 : ∀ tq, Steps p.tables e below (T442.setTop (mkF m 99 #[.val (.int p1), .val (.ref b2), .val (.int (2 : Int32)), .val (.int (0 : Int32))] [(.ref s_REMAINDER)])) tq → Steps p.tables e below (s₁.setTop (entryFrame m #[(.int p1)] maxLocals)) tq := fun tq kq => pre499 tq (X442.aaload hx (j := (2 : Int32)) (v := (.ref s_REMAINDER)) (by rw [e442]; exact Ar500.1) (State.isArrayOf_alike hZ.alike Ar500.2.1) rfl Ar500.2.2 hin500 (Has.at Ah500 hin500 rfl) (g := (mkF m 98 #[.val (.int p1), .val (.ref b2), .val (.int (2 : Int32)), .val (.int (0 : Int32))] [(.int (2 : Int32)), (.ref b2)])) rfl rfl (hb hby at_98) _ kq)
    have Z502 : n0 ≤ h442.size := (Nat.le_trans (Nat.le_trans (Nat.le_trans (Nat.le_trans (Nat.le_trans (Nat.le_trans (Nat.le_trans (Nat.le_trans (Nat.le_trans (Nat.le_trans (Nat.le_trans (Nat.le_trans Z0 E2.1) (Keep.of_wr W52).1) (Keep.of_wr W91).1) (Keep.of_wr W130).1) (Keep.of_wr W169).1) (Keep.of_wr W208).1) (Keep.of_wr W247).1) (Keep.of_wr W286).1) (Keep.of_wr W325).1) (Keep.of_wr W364).1) (Keep.of_wr W403).1) (Keep.of_wr W442).1)
    obtain ⟨cq502, kq502, q502a, q502b, q502c⟩ := isOf hZ e442 f449
    obtain ⟨_, _, ⟨T502, L502, k502, n502⟩, -, X502, ⟨Lc502, hQ502, l502, y502, z502⟩, st502⟩ := X442.virtualBack hx (y := (⟨"com/example/tidemark/tidemark/Expression$Operator", "compares", "()Z"⟩ : MethodName)) (z := (⟨"com/example/tidemark/tidemark/Expression$Operator", "compares", "()Z"⟩ : MethodName)) hown (mvT hZ (hw _ (List.mem_of_getElem? (i := 27) rfl))) (mvT hZ (hw _ (List.mem_of_getElem? (i := 28) rfl))) (notFace_of_selects (args := #[]) (mvT hZ (hw _ (List.mem_of_getElem? (i := 30) rfl)))) (mvT hZ (hw _ (List.mem_of_getElem? (i := 30) rfl))) (mvT hZ (hw _ (List.mem_of_getElem? (i := 29) rfl))) (by decide) (backOf (W := 0) (rm1 l Z a0 hw [] s_REMAINDER (0 : Int32) h442 n0 Z502 f470) hZ (hw _ (List.mem_of_getElem? (i := 31) rfl)) (hw _ (List.mem_of_getElem? (i := 3) rfl)) (by decide) (by decide)) q502a q502c (g := (mkF m 99 #[.val (.int p1), .val (.ref b2), .val (.int (2 : Int32)), .val (.int (0 : Int32))] [(.ref s_REMAINDER)])) rfl (by rw [hml]; rfl) (Steps.refl _) (argsL := []) (rest := []) (lenOf pd0_0 rfl) rfl (by show 2 * 0 + _ ≤ _; exact Nat.le_of_eq rfl) (hb hby at_99) (fun _ _ => ⟨rfl, e442, (by decide : (0 + 1) + 0 ≤ _), (by decide : (0 + 11) + 0 ≤ _)⟩)
    dsimp only [Pt.U, Pt.locs, Pt.cells, Pt.slots] at X502 l502 y502 z502 st502 hQ502
    subst l502 y502 z502
    obtain ⟨r503, rfl, Nq502, ehq502, hq502⟩ := hQ502
    have N502 := Fr.app N442 Nq502
    have pre504 : ∀ tq, Steps p.tables e below (T502.setTop (mkF m 102 #[.val (.int p1), .val (.ref b2), .val (.int (2 : Int32)), .val (.int (0 : Int32))] [(.int r503)])) tq → Steps p.tables e below (s₁.setTop (entryFrame m #[(.int p1)] maxLocals)) tq := fun tq kq => pre501 tq (st502.trans kq)
    obtain ⟨v505, hj506, pre506⟩ : ∃ v505 : Int32, ((r503 = (0 : Int32) ∧ v505 = (1 : Int32)) ∨ (¬ (r503 = (0 : Int32)) ∧ v505 = (0 : Int32))) ∧ (∀ tq, Steps p.tables e below (T502.setTop (mkF m 111 #[.val (.int p1), .val (.ref b2), .val (.int (2 : Int32)), .val (.int (0 : Int32))] [(.int v505)])) tq → Steps p.tables e below (s₁.setTop (entryFrame m #[(.int p1)] maxLocals)) tq) := by
      by_cases hb0_103 : r503 = (0 : Int32)
      · skip
        refine ⟨(1 : Int32), Or.inl (⟨hb0_103, rfl⟩), fun tq kq => pre504 tq ?_⟩
        show Steps p.tables e below (T502.setTop (mkF m 102 #[.val (.int p1), .val (.ref b2), .val (.int (2 : Int32)), .val (.int (0 : Int32))] [(.int r503)])) _
        refine XS.iloadN X502.here hx rfl (hb hby at_102) rfl ?_
        show Steps p.tables e below (T502.setTop (mkF m 103 #[.val (.int p1), .val (.ref b2), .val (.int (2 : Int32)), .val (.int (0 : Int32))] [(.int (0 : Int32)), (.int r503)])) _
        refine XS.icmpNo X502.here hx rfl (hb hby at_103) rfl (teq hb0_103).2 ?_
        show Steps p.tables e below (T502.setTop (mkF m 106 #[.val (.int p1), .val (.ref b2), .val (.int (2 : Int32)), .val (.int (0 : Int32))] [])) _
        refine XS.iconst X502.here hx rfl (hb hby at_106) ?_
        show Steps p.tables e below (T502.setTop (mkF m 107 #[.val (.int p1), .val (.ref b2), .val (.int (2 : Int32)), .val (.int (0 : Int32))] [(.int (1 : Int32))])) _
        refine XS.goto X502.here hx rfl (pc0 := 107) (pc' := 111) rfl (hb hby at_107) (by decide) (by decide) ?_
        exact kq
      · skip
        refine ⟨(0 : Int32), Or.inr (⟨hb0_103, rfl⟩), fun tq kq => pre504 tq ?_⟩
        show Steps p.tables e below (T502.setTop (mkF m 102 #[.val (.int p1), .val (.ref b2), .val (.int (2 : Int32)), .val (.int (0 : Int32))] [(.int r503)])) _
        refine XS.iloadN X502.here hx rfl (hb hby at_102) rfl ?_
        show Steps p.tables e below (T502.setTop (mkF m 103 #[.val (.int p1), .val (.ref b2), .val (.int (2 : Int32)), .val (.int (0 : Int32))] [(.int (0 : Int32)), (.int r503)])) _
        refine XS.icmpYes X502.here hx rfl (pc0 := 103) (pc' := 110) rfl (hb hby at_103) rfl (feq hb0_103).2 (by decide) (by decide) ?_
        show Steps p.tables e below (T502.setTop (mkF m 110 #[.val (.int p1), .val (.ref b2), .val (.int (2 : Int32)), .val (.int (0 : Int32))] [])) _
        refine XS.iconst X502.here hx rfl (hb hby at_110) ?_
        exact kq
    have hfin : v505 = 1 := by
      simp only [Int32.lt_iff_toInt_lt, ← Int32.toInt_inj, Int32.reduceToInt, true_and, and_true, false_and, and_false, or_false, false_or, not_true_eq_false, not_false_eq_true, true_implies, false_implies] at hq502 hj506 ⊢ <;> omega
    subst hfin
    obtain ⟨fs, hr, hrun, hended, hW, hsame⟩ := X502.leave (v := some (.int (1 : Int32))) (fun h => by rw [Bd.returns] at h; cases h)
    refine ⟨_, _, pre506 _ ?_, hrun, hended, _, _, rfl, ?_, ⟨_, rfl⟩, hW, hsame.mono (by decide) (by decide)⟩
    · skip
      show Steps p.tables e below (T502.setTop (mkF m 111 #[.val (.int p1), .val (.ref b2), .val (.int (2 : Int32)), .val (.int (0 : Int32))] [(.int (1 : Int32))])) _
      exact retN X502 hx (t := .boolean) Bd.returns (by simp) (hb hby at_111) hr
    · show Q0 Z p1 s_TIMES s_DIVIDE s_REMAINDER s_PLUS s_MINUS s_LESS s_LESS_OR_EQUAL s_GREATER s_GREATER_OR_EQUAL s_EQUAL s_NOT_EQUAL h0 n0 _ T502.heap _
      rw [ehq502]
      exact ⟨rfl, N502⟩
  · skip
    subst hk
    have pre507 : ∀ tq, Steps p.tables e below (T442.setTop (mkF m 94 #[.val (.int p1), .val (.ref b2), .val (.int (3 : Int32)), .unset] [])) tq → Steps p.tables e below (s₁.setTop (entryFrame m #[(.int p1)] maxLocals)) tq := by
      refine fun tq kq => pre478 tq ?_
      show Steps p.tables e below (T442.setTop (mkF m 85 #[.val (.int p1), .val (.ref b2), .val (.int (3 : Int32)), .unset] [])) _
      refine XS.iloadN X442.here hx rfl (hb hby at_85) rfl ?_
      show Steps p.tables e below (T442.setTop (mkF m 86 #[.val (.int p1), .val (.ref b2), .val (.int (3 : Int32)), .unset] [(.int (3 : Int32))])) _
      refine XS.iconst X442.here hx rfl (hb hby at_86) ?_
      show Steps p.tables e below (T442.setTop (mkF m 87 #[.val (.int p1), .val (.ref b2), .val (.int (3 : Int32)), .unset] [(.int (5 : Int32)), (.int (3 : Int32))])) _
      refine XS.icmpYes X442.here hx rfl (pc0 := 87) (pc' := 94) rfl (hb hby at_87) rfl (tlt (by decide : (3 : Int32) < (5 : Int32))).1 (by decide) (by decide) ?_
      exact kq
    have pre508 : ∀ tq, Steps p.tables e below (T442.setTop (mkF m 98 #[.val (.int p1), .val (.ref b2), .val (.int (3 : Int32)), .val (.int (0 : Int32))] [(.int (3 : Int32)), (.ref b2)])) tq → Steps p.tables e below (s₁.setTop (entryFrame m #[(.int p1)] maxLocals)) tq := by
      refine fun tq kq => pre507 tq ?_
      show Steps p.tables e below (T442.setTop (mkF m 94 #[.val (.int p1), .val (.ref b2), .val (.int (3 : Int32)), .unset] [])) _
      refine XS.iconst X442.here hx rfl (hb hby at_94) ?_
      show Steps p.tables e below (T442.setTop (mkF m 95 #[.val (.int p1), .val (.ref b2), .val (.int (3 : Int32)), .unset] [(.int (0 : Int32))])) _
      refine XS.istoreN X442.here hx rfl (hb hby at_95) rfl (l' := #[.val (.int p1), .val (.ref b2), .val (.int (3 : Int32)), .val (.int (0 : Int32))]) rfl ?_
      show Steps p.tables e below (T442.setTop (mkF m 96 #[.val (.int p1), .val (.ref b2), .val (.int (3 : Int32)), .val (.int (0 : Int32))] [])) _
      refine XS.aloadN X442.here hx rfl (hb hby at_96) rfl rfl ?_
      show Steps p.tables e below (T442.setTop (mkF m 97 #[.val (.int p1), .val (.ref b2), .val (.int (3 : Int32)), .val (.int (0 : Int32))] [(.ref b2)])) _
      refine XS.iloadN X442.here hx rfl (hb hby at_97) rfl ?_
      exact kq
    have Vc509 := f477
    obtain ⟨cl509, Ar509, Aq509, As509, An509, Ah509, Ag509⟩ := Vc509
    have hin509 : ¬ ((3 : Int32) < 0 ∨ cl509.slots.size ≤ ((3 : Int32)).toNatClampNeg) := inb_of As509 ⟨by decide, by decide⟩
    have pre510 : ∀ tq, Steps p.tables e below (T442.setTop (mkF m 99 #[.val (.int p1), .val (.ref b2), .val (.int (3 : Int32)), .val (.int (0 : Int32))] [(.ref s_PLUS)])) tq → Steps p.tables e below (s₁.setTop (entryFrame m #[(.int p1)] maxLocals)) tq := fun tq kq => pre508 tq (X442.aaload hx (j := (3 : Int32)) (v := (.ref s_PLUS)) (by rw [e442]; exact Ar509.1) (State.isArrayOf_alike hZ.alike Ar509.2.1) rfl Ar509.2.2 hin509 (Has.at Ah509 hin509 rfl) (g := (mkF m 98 #[.val (.int p1), .val (.ref b2), .val (.int (3 : Int32)), .val (.int (0 : Int32))] [(.int (3 : Int32)), (.ref b2)])) rfl rfl (hb hby at_98) _ kq)
    have Z511 : n0 ≤ h442.size := (Nat.le_trans (Nat.le_trans (Nat.le_trans (Nat.le_trans (Nat.le_trans (Nat.le_trans (Nat.le_trans (Nat.le_trans (Nat.le_trans (Nat.le_trans (Nat.le_trans (Nat.le_trans Z0 E2.1) (Keep.of_wr W52).1) (Keep.of_wr W91).1) (Keep.of_wr W130).1) (Keep.of_wr W169).1) (Keep.of_wr W208).1) (Keep.of_wr W247).1) (Keep.of_wr W286).1) (Keep.of_wr W325).1) (Keep.of_wr W364).1) (Keep.of_wr W403).1) (Keep.of_wr W442).1)
    obtain ⟨cq511, kq511, q511a, q511b, q511c⟩ := isOf hZ e442 f451
    obtain ⟨_, _, ⟨T511, L511, k511, n511⟩, -, X511, ⟨Lc511, hQ511, l511, y511, z511⟩, st511⟩ := X442.virtualBack hx (y := (⟨"com/example/tidemark/tidemark/Expression$Operator", "compares", "()Z"⟩ : MethodName)) (z := (⟨"com/example/tidemark/tidemark/Expression$Operator", "compares", "()Z"⟩ : MethodName)) hown (mvT hZ (hw _ (List.mem_of_getElem? (i := 27) rfl))) (mvT hZ (hw _ (List.mem_of_getElem? (i := 28) rfl))) (notFace_of_selects (args := #[]) (mvT hZ (hw _ (List.mem_of_getElem? (i := 30) rfl)))) (mvT hZ (hw _ (List.mem_of_getElem? (i := 30) rfl))) (mvT hZ (hw _ (List.mem_of_getElem? (i := 29) rfl))) (by decide) (backOf (W := 0) (rm1 l Z a0 hw [] s_PLUS (1 : Int32) h442 n0 Z511 f467) hZ (hw _ (List.mem_of_getElem? (i := 31) rfl)) (hw _ (List.mem_of_getElem? (i := 3) rfl)) (by decide) (by decide)) q511a q511c (g := (mkF m 99 #[.val (.int p1), .val (.ref b2), .val (.int (3 : Int32)), .val (.int (0 : Int32))] [(.ref s_PLUS)])) rfl (by rw [hml]; rfl) (Steps.refl _) (argsL := []) (rest := []) (lenOf pd0_0 rfl) rfl (by show 2 * 0 + _ ≤ _; exact Nat.le_of_eq rfl) (hb hby at_99) (fun _ _ => ⟨rfl, e442, (by decide : (0 + 1) + 0 ≤ _), (by decide : (0 + 11) + 0 ≤ _)⟩)
    dsimp only [Pt.U, Pt.locs, Pt.cells, Pt.slots] at X511 l511 y511 z511 st511 hQ511
    subst l511 y511 z511
    obtain ⟨r512, rfl, Nq511, ehq511, hq511⟩ := hQ511
    have N511 := Fr.app N442 Nq511
    have pre513 : ∀ tq, Steps p.tables e below (T511.setTop (mkF m 102 #[.val (.int p1), .val (.ref b2), .val (.int (3 : Int32)), .val (.int (0 : Int32))] [(.int r512)])) tq → Steps p.tables e below (s₁.setTop (entryFrame m #[(.int p1)] maxLocals)) tq := fun tq kq => pre510 tq (st511.trans kq)
    obtain ⟨v514, hj515, pre515⟩ : ∃ v514 : Int32, ((r512 = (0 : Int32) ∧ v514 = (1 : Int32)) ∨ (¬ (r512 = (0 : Int32)) ∧ v514 = (0 : Int32))) ∧ (∀ tq, Steps p.tables e below (T511.setTop (mkF m 111 #[.val (.int p1), .val (.ref b2), .val (.int (3 : Int32)), .val (.int (0 : Int32))] [(.int v514)])) tq → Steps p.tables e below (s₁.setTop (entryFrame m #[(.int p1)] maxLocals)) tq) := by
      by_cases hb0_103 : r512 = (0 : Int32)
      · skip
        refine ⟨(1 : Int32), Or.inl (⟨hb0_103, rfl⟩), fun tq kq => pre513 tq ?_⟩
        show Steps p.tables e below (T511.setTop (mkF m 102 #[.val (.int p1), .val (.ref b2), .val (.int (3 : Int32)), .val (.int (0 : Int32))] [(.int r512)])) _
        refine XS.iloadN X511.here hx rfl (hb hby at_102) rfl ?_
        show Steps p.tables e below (T511.setTop (mkF m 103 #[.val (.int p1), .val (.ref b2), .val (.int (3 : Int32)), .val (.int (0 : Int32))] [(.int (0 : Int32)), (.int r512)])) _
        refine XS.icmpNo X511.here hx rfl (hb hby at_103) rfl (teq hb0_103).2 ?_
        show Steps p.tables e below (T511.setTop (mkF m 106 #[.val (.int p1), .val (.ref b2), .val (.int (3 : Int32)), .val (.int (0 : Int32))] [])) _
        refine XS.iconst X511.here hx rfl (hb hby at_106) ?_
        show Steps p.tables e below (T511.setTop (mkF m 107 #[.val (.int p1), .val (.ref b2), .val (.int (3 : Int32)), .val (.int (0 : Int32))] [(.int (1 : Int32))])) _
        refine XS.goto X511.here hx rfl (pc0 := 107) (pc' := 111) rfl (hb hby at_107) (by decide) (by decide) ?_
        exact kq
      · skip
        refine ⟨(0 : Int32), Or.inr (⟨hb0_103, rfl⟩), fun tq kq => pre513 tq ?_⟩
        show Steps p.tables e below (T511.setTop (mkF m 102 #[.val (.int p1), .val (.ref b2), .val (.int (3 : Int32)), .val (.int (0 : Int32))] [(.int r512)])) _
        refine XS.iloadN X511.here hx rfl (hb hby at_102) rfl ?_
        show Steps p.tables e below (T511.setTop (mkF m 103 #[.val (.int p1), .val (.ref b2), .val (.int (3 : Int32)), .val (.int (0 : Int32))] [(.int (0 : Int32)), (.int r512)])) _
        refine XS.icmpYes X511.here hx rfl (pc0 := 103) (pc' := 110) rfl (hb hby at_103) rfl (feq hb0_103).2 (by decide) (by decide) ?_
        show Steps p.tables e below (T511.setTop (mkF m 110 #[.val (.int p1), .val (.ref b2), .val (.int (3 : Int32)), .val (.int (0 : Int32))] [])) _
        refine XS.iconst X511.here hx rfl (hb hby at_110) ?_
        exact kq
    have hfin : v514 = 1 := by
      simp only [Int32.lt_iff_toInt_lt, ← Int32.toInt_inj, Int32.reduceToInt, true_and, and_true, false_and, and_false, or_false, false_or, not_true_eq_false, not_false_eq_true, true_implies, false_implies] at hq511 hj515 ⊢ <;> omega
    subst hfin
    obtain ⟨fs, hr, hrun, hended, hW, hsame⟩ := X511.leave (v := some (.int (1 : Int32))) (fun h => by rw [Bd.returns] at h; cases h)
    refine ⟨_, _, pre515 _ ?_, hrun, hended, _, _, rfl, ?_, ⟨_, rfl⟩, hW, hsame.mono (by decide) (by decide)⟩
    · skip
      show Steps p.tables e below (T511.setTop (mkF m 111 #[.val (.int p1), .val (.ref b2), .val (.int (3 : Int32)), .val (.int (0 : Int32))] [(.int (1 : Int32))])) _
      exact retN X511 hx (t := .boolean) Bd.returns (by simp) (hb hby at_111) hr
    · show Q0 Z p1 s_TIMES s_DIVIDE s_REMAINDER s_PLUS s_MINUS s_LESS s_LESS_OR_EQUAL s_GREATER s_GREATER_OR_EQUAL s_EQUAL s_NOT_EQUAL h0 n0 _ T511.heap _
      rw [ehq511]
      exact ⟨rfl, N511⟩
  · skip
    subst hk
    have pre516 : ∀ tq, Steps p.tables e below (T442.setTop (mkF m 94 #[.val (.int p1), .val (.ref b2), .val (.int (4 : Int32)), .unset] [])) tq → Steps p.tables e below (s₁.setTop (entryFrame m #[(.int p1)] maxLocals)) tq := by
      refine fun tq kq => pre478 tq ?_
      show Steps p.tables e below (T442.setTop (mkF m 85 #[.val (.int p1), .val (.ref b2), .val (.int (4 : Int32)), .unset] [])) _
      refine XS.iloadN X442.here hx rfl (hb hby at_85) rfl ?_
      show Steps p.tables e below (T442.setTop (mkF m 86 #[.val (.int p1), .val (.ref b2), .val (.int (4 : Int32)), .unset] [(.int (4 : Int32))])) _
      refine XS.iconst X442.here hx rfl (hb hby at_86) ?_
      show Steps p.tables e below (T442.setTop (mkF m 87 #[.val (.int p1), .val (.ref b2), .val (.int (4 : Int32)), .unset] [(.int (5 : Int32)), (.int (4 : Int32))])) _
      refine XS.icmpYes X442.here hx rfl (pc0 := 87) (pc' := 94) rfl (hb hby at_87) rfl (tlt (by decide : (4 : Int32) < (5 : Int32))).1 (by decide) (by decide) ?_
      exact kq
    have pre517 : ∀ tq, Steps p.tables e below (T442.setTop (mkF m 98 #[.val (.int p1), .val (.ref b2), .val (.int (4 : Int32)), .val (.int (0 : Int32))] [(.int (4 : Int32)), (.ref b2)])) tq → Steps p.tables e below (s₁.setTop (entryFrame m #[(.int p1)] maxLocals)) tq := by
      refine fun tq kq => pre516 tq ?_
      show Steps p.tables e below (T442.setTop (mkF m 94 #[.val (.int p1), .val (.ref b2), .val (.int (4 : Int32)), .unset] [])) _
      refine XS.iconst X442.here hx rfl (hb hby at_94) ?_
      show Steps p.tables e below (T442.setTop (mkF m 95 #[.val (.int p1), .val (.ref b2), .val (.int (4 : Int32)), .unset] [(.int (0 : Int32))])) _
      refine XS.istoreN X442.here hx rfl (hb hby at_95) rfl (l' := #[.val (.int p1), .val (.ref b2), .val (.int (4 : Int32)), .val (.int (0 : Int32))]) rfl ?_
      show Steps p.tables e below (T442.setTop (mkF m 96 #[.val (.int p1), .val (.ref b2), .val (.int (4 : Int32)), .val (.int (0 : Int32))] [])) _
      refine XS.aloadN X442.here hx rfl (hb hby at_96) rfl rfl ?_
      show Steps p.tables e below (T442.setTop (mkF m 97 #[.val (.int p1), .val (.ref b2), .val (.int (4 : Int32)), .val (.int (0 : Int32))] [(.ref b2)])) _
      refine XS.iloadN X442.here hx rfl (hb hby at_97) rfl ?_
      exact kq
    have Vc518 := f477
    obtain ⟨cl518, Ar518, Aq518, As518, An518, Ah518, Ag518⟩ := Vc518
    have hin518 : ¬ ((4 : Int32) < 0 ∨ cl518.slots.size ≤ ((4 : Int32)).toNatClampNeg) := inb_of As518 ⟨by decide, by decide⟩
    have pre519 : ∀ tq, Steps p.tables e below (T442.setTop (mkF m 99 #[.val (.int p1), .val (.ref b2), .val (.int (4 : Int32)), .val (.int (0 : Int32))] [(.ref s_MINUS)])) tq → Steps p.tables e below (s₁.setTop (entryFrame m #[(.int p1)] maxLocals)) tq := fun tq kq => pre517 tq (X442.aaload hx (j := (4 : Int32)) (v := (.ref s_MINUS)) (by rw [e442]; exact Ar518.1) (State.isArrayOf_alike hZ.alike Ar518.2.1) rfl Ar518.2.2 hin518 (Has.at Ah518 hin518 rfl) (g := (mkF m 98 #[.val (.int p1), .val (.ref b2), .val (.int (4 : Int32)), .val (.int (0 : Int32))] [(.int (4 : Int32)), (.ref b2)])) rfl rfl (hb hby at_98) _ kq)
    have Z520 : n0 ≤ h442.size := (Nat.le_trans (Nat.le_trans (Nat.le_trans (Nat.le_trans (Nat.le_trans (Nat.le_trans (Nat.le_trans (Nat.le_trans (Nat.le_trans (Nat.le_trans (Nat.le_trans (Nat.le_trans Z0 E2.1) (Keep.of_wr W52).1) (Keep.of_wr W91).1) (Keep.of_wr W130).1) (Keep.of_wr W169).1) (Keep.of_wr W208).1) (Keep.of_wr W247).1) (Keep.of_wr W286).1) (Keep.of_wr W325).1) (Keep.of_wr W364).1) (Keep.of_wr W403).1) (Keep.of_wr W442).1)
    obtain ⟨cq520, kq520, q520a, q520b, q520c⟩ := isOf hZ e442 f453
    obtain ⟨_, _, ⟨T520, L520, k520, n520⟩, -, X520, ⟨Lc520, hQ520, l520, y520, z520⟩, st520⟩ := X442.virtualBack hx (y := (⟨"com/example/tidemark/tidemark/Expression$Operator", "compares", "()Z"⟩ : MethodName)) (z := (⟨"com/example/tidemark/tidemark/Expression$Operator", "compares", "()Z"⟩ : MethodName)) hown (mvT hZ (hw _ (List.mem_of_getElem? (i := 27) rfl))) (mvT hZ (hw _ (List.mem_of_getElem? (i := 28) rfl))) (notFace_of_selects (args := #[]) (mvT hZ (hw _ (List.mem_of_getElem? (i := 30) rfl)))) (mvT hZ (hw _ (List.mem_of_getElem? (i := 30) rfl))) (mvT hZ (hw _ (List.mem_of_getElem? (i := 29) rfl))) (by decide) (backOf (W := 0) (rm1 l Z a0 hw [] s_MINUS (1 : Int32) h442 n0 Z520 f476) hZ (hw _ (List.mem_of_getElem? (i := 31) rfl)) (hw _ (List.mem_of_getElem? (i := 3) rfl)) (by decide) (by decide)) q520a q520c (g := (mkF m 99 #[.val (.int p1), .val (.ref b2), .val (.int (4 : Int32)), .val (.int (0 : Int32))] [(.ref s_MINUS)])) rfl (by rw [hml]; rfl) (Steps.refl _) (argsL := []) (rest := []) (lenOf pd0_0 rfl) rfl (by show 2 * 0 + _ ≤ _; exact Nat.le_of_eq rfl) (hb hby at_99) (fun _ _ => ⟨rfl, e442, (by decide : (0 + 1) + 0 ≤ _), (by decide : (0 + 11) + 0 ≤ _)⟩)
    dsimp only [Pt.U, Pt.locs, Pt.cells, Pt.slots] at X520 l520 y520 z520 st520 hQ520
    subst l520 y520 z520
    obtain ⟨r521, rfl, Nq520, ehq520, hq520⟩ := hQ520
    have N520 := Fr.app N442 Nq520
    have pre522 : ∀ tq, Steps p.tables e below (T520.setTop (mkF m 102 #[.val (.int p1), .val (.ref b2), .val (.int (4 : Int32)), .val (.int (0 : Int32))] [(.int r521)])) tq → Steps p.tables e below (s₁.setTop (entryFrame m #[(.int p1)] maxLocals)) tq := fun tq kq => pre519 tq (st520.trans kq)
    obtain ⟨v523, hj524, pre524⟩ : ∃ v523 : Int32, ((r521 = (0 : Int32) ∧ v523 = (1 : Int32)) ∨ (¬ (r521 = (0 : Int32)) ∧ v523 = (0 : Int32))) ∧ (∀ tq, Steps p.tables e below (T520.setTop (mkF m 111 #[.val (.int p1), .val (.ref b2), .val (.int (4 : Int32)), .val (.int (0 : Int32))] [(.int v523)])) tq → Steps p.tables e below (s₁.setTop (entryFrame m #[(.int p1)] maxLocals)) tq) := by
      by_cases hb0_103 : r521 = (0 : Int32)
      · skip
        refine ⟨(1 : Int32), Or.inl (⟨hb0_103, rfl⟩), fun tq kq => pre522 tq ?_⟩
        show Steps p.tables e below (T520.setTop (mkF m 102 #[.val (.int p1), .val (.ref b2), .val (.int (4 : Int32)), .val (.int (0 : Int32))] [(.int r521)])) _
        refine XS.iloadN X520.here hx rfl (hb hby at_102) rfl ?_
        show Steps p.tables e below (T520.setTop (mkF m 103 #[.val (.int p1), .val (.ref b2), .val (.int (4 : Int32)), .val (.int (0 : Int32))] [(.int (0 : Int32)), (.int r521)])) _
        refine XS.icmpNo X520.here hx rfl (hb hby at_103) rfl (teq hb0_103).2 ?_
        show Steps p.tables e below (T520.setTop (mkF m 106 #[.val (.int p1), .val (.ref b2), .val (.int (4 : Int32)), .val (.int (0 : Int32))] [])) _
        refine XS.iconst X520.here hx rfl (hb hby at_106) ?_
        show Steps p.tables e below (T520.setTop (mkF m 107 #[.val (.int p1), .val (.ref b2), .val (.int (4 : Int32)), .val (.int (0 : Int32))] [(.int (1 : Int32))])) _
        refine XS.goto X520.here hx rfl (pc0 := 107) (pc' := 111) rfl (hb hby at_107) (by decide) (by decide) ?_
        exact kq
      · skip
        refine ⟨(0 : Int32), Or.inr (⟨hb0_103, rfl⟩), fun tq kq => pre522 tq ?_⟩
        show Steps p.tables e below (T520.setTop (mkF m 102 #[.val (.int p1), .val (.ref b2), .val (.int (4 : Int32)), .val (.int (0 : Int32))] [(.int r521)])) _
        refine XS.iloadN X520.here hx rfl (hb hby at_102) rfl ?_
        show Steps p.tables e below (T520.setTop (mkF m 103 #[.val (.int p1), .val (.ref b2), .val (.int (4 : Int32)), .val (.int (0 : Int32))] [(.int (0 : Int32)), (.int r521)])) _
        refine XS.icmpYes X520.here hx rfl (pc0 := 103) (pc' := 110) rfl (hb hby at_103) rfl (feq hb0_103).2 (by decide) (by decide) ?_
        show Steps p.tables e below (T520.setTop (mkF m 110 #[.val (.int p1), .val (.ref b2), .val (.int (4 : Int32)), .val (.int (0 : Int32))] [])) _
        refine XS.iconst X520.here hx rfl (hb hby at_110) ?_
        exact kq
    have hfin : v523 = 1 := by
      simp only [Int32.lt_iff_toInt_lt, ← Int32.toInt_inj, Int32.reduceToInt, true_and, and_true, false_and, and_false, or_false, false_or, not_true_eq_false, not_false_eq_true, true_implies, false_implies] at hq520 hj524 ⊢ <;> omega
    subst hfin
    obtain ⟨fs, hr, hrun, hended, hW, hsame⟩ := X520.leave (v := some (.int (1 : Int32))) (fun h => by rw [Bd.returns] at h; cases h)
    refine ⟨_, _, pre524 _ ?_, hrun, hended, _, _, rfl, ?_, ⟨_, rfl⟩, hW, hsame.mono (by decide) (by decide)⟩
    · skip
      show Steps p.tables e below (T520.setTop (mkF m 111 #[.val (.int p1), .val (.ref b2), .val (.int (4 : Int32)), .val (.int (0 : Int32))] [(.int (1 : Int32))])) _
      exact retN X520 hx (t := .boolean) Bd.returns (by simp) (hb hby at_111) hr
    · show Q0 Z p1 s_TIMES s_DIVIDE s_REMAINDER s_PLUS s_MINUS s_LESS s_LESS_OR_EQUAL s_GREATER s_GREATER_OR_EQUAL s_EQUAL s_NOT_EQUAL h0 n0 _ T520.heap _
      rw [ehq520]
      exact ⟨rfl, N520⟩
  · skip
    subst hk
    have pre525 : ∀ tq, Steps p.tables e below (T442.setTop (mkF m 90 #[.val (.int p1), .val (.ref b2), .val (.int (5 : Int32)), .unset] [])) tq → Steps p.tables e below (s₁.setTop (entryFrame m #[(.int p1)] maxLocals)) tq := by
      refine fun tq kq => pre478 tq ?_
      show Steps p.tables e below (T442.setTop (mkF m 85 #[.val (.int p1), .val (.ref b2), .val (.int (5 : Int32)), .unset] [])) _
      refine XS.iloadN X442.here hx rfl (hb hby at_85) rfl ?_
      show Steps p.tables e below (T442.setTop (mkF m 86 #[.val (.int p1), .val (.ref b2), .val (.int (5 : Int32)), .unset] [(.int (5 : Int32))])) _
      refine XS.iconst X442.here hx rfl (hb hby at_86) ?_
      show Steps p.tables e below (T442.setTop (mkF m 87 #[.val (.int p1), .val (.ref b2), .val (.int (5 : Int32)), .unset] [(.int (5 : Int32)), (.int (5 : Int32))])) _
      refine XS.icmpNo X442.here hx rfl (hb hby at_87) rfl (flt (by decide : ¬ ((5 : Int32) < (5 : Int32)))).1 ?_
      exact kq
    have pre526 : ∀ tq, Steps p.tables e below (T442.setTop (mkF m 98 #[.val (.int p1), .val (.ref b2), .val (.int (5 : Int32)), .val (.int (1 : Int32))] [(.int (5 : Int32)), (.ref b2)])) tq → Steps p.tables e below (s₁.setTop (entryFrame m #[(.int p1)] maxLocals)) tq := by
      refine fun tq kq => pre525 tq ?_
      show Steps p.tables e below (T442.setTop (mkF m 90 #[.val (.int p1), .val (.ref b2), .val (.int (5 : Int32)), .unset] [])) _
      refine XS.iconst X442.here hx rfl (hb hby at_90) ?_
      show Steps p.tables e below (T442.setTop (mkF m 91 #[.val (.int p1), .val (.ref b2), .val (.int (5 : Int32)), .unset] [(.int (1 : Int32))])) _
      refine XS.goto X442.here hx rfl (pc0 := 91) (pc' := 95) rfl (hb hby at_91) (by decide) (by decide) ?_
      show Steps p.tables e below (T442.setTop (mkF m 95 #[.val (.int p1), .val (.ref b2), .val (.int (5 : Int32)), .unset] [(.int (1 : Int32))])) _
      refine XS.istoreN X442.here hx rfl (hb hby at_95) rfl (l' := #[.val (.int p1), .val (.ref b2), .val (.int (5 : Int32)), .val (.int (1 : Int32))]) rfl ?_
      show Steps p.tables e below (T442.setTop (mkF m 96 #[.val (.int p1), .val (.ref b2), .val (.int (5 : Int32)), .val (.int (1 : Int32))] [])) _
      refine XS.aloadN X442.here hx rfl (hb hby at_96) rfl rfl ?_
      show Steps p.tables e below (T442.setTop (mkF m 97 #[.val (.int p1), .val (.ref b2), .val (.int (5 : Int32)), .val (.int (1 : Int32))] [(.ref b2)])) _
      refine XS.iloadN X442.here hx rfl (hb hby at_97) rfl ?_
      exact kq
    have Vc527 := f477
    obtain ⟨cl527, Ar527, Aq527, As527, An527, Ah527, Ag527⟩ := Vc527
    have hin527 : ¬ ((5 : Int32) < 0 ∨ cl527.slots.size ≤ ((5 : Int32)).toNatClampNeg) := inb_of As527 ⟨by decide, by decide⟩
    have pre528 : ∀ tq, Steps p.tables e below (T442.setTop (mkF m 99 #[.val (.int p1), .val (.ref b2), .val (.int (5 : Int32)), .val (.int (1 : Int32))] [(.ref s_LESS)])) tq → Steps p.tables e below (s₁.setTop (entryFrame m #[(.int p1)] maxLocals)) tq := fun tq kq => pre526 tq (X442.aaload hx (j := (5 : Int32)) (v := (.ref s_LESS)) (by rw [e442]; exact Ar527.1) (State.isArrayOf_alike hZ.alike Ar527.2.1) rfl Ar527.2.2 hin527 (Has.at Ah527 hin527 rfl) (g := (mkF m 98 #[.val (.int p1), .val (.ref b2), .val (.int (5 : Int32)), .val (.int (1 : Int32))] [(.int (5 : Int32)), (.ref b2)])) rfl rfl (hb hby at_98) _ kq)
    have Z529 : n0 ≤ h442.size := (Nat.le_trans (Nat.le_trans (Nat.le_trans (Nat.le_trans (Nat.le_trans (Nat.le_trans (Nat.le_trans (Nat.le_trans (Nat.le_trans (Nat.le_trans (Nat.le_trans (Nat.le_trans Z0 E2.1) (Keep.of_wr W52).1) (Keep.of_wr W91).1) (Keep.of_wr W130).1) (Keep.of_wr W169).1) (Keep.of_wr W208).1) (Keep.of_wr W247).1) (Keep.of_wr W286).1) (Keep.of_wr W325).1) (Keep.of_wr W364).1) (Keep.of_wr W403).1) (Keep.of_wr W442).1)
    obtain ⟨cq529, kq529, q529a, q529b, q529c⟩ := isOf hZ e442 f455
    obtain ⟨_, _, ⟨T529, L529, k529, n529⟩, -, X529, ⟨Lc529, hQ529, l529, y529, z529⟩, st529⟩ := X442.virtualBack hx (y := (⟨"com/example/tidemark/tidemark/Expression$Operator", "compares", "()Z"⟩ : MethodName)) (z := (⟨"com/example/tidemark/tidemark/Expression$Operator", "compares", "()Z"⟩ : MethodName)) hown (mvT hZ (hw _ (List.mem_of_getElem? (i := 27) rfl))) (mvT hZ (hw _ (List.mem_of_getElem? (i := 28) rfl))) (notFace_of_selects (args := #[]) (mvT hZ (hw _ (List.mem_of_getElem? (i := 30) rfl)))) (mvT hZ (hw _ (List.mem_of_getElem? (i := 30) rfl))) (mvT hZ (hw _ (List.mem_of_getElem? (i := 29) rfl))) (by decide) (backOf (W := 0) (rm1 l Z a0 hw [] s_LESS (2 : Int32) h442 n0 Z529 f474) hZ (hw _ (List.mem_of_getElem? (i := 31) rfl)) (hw _ (List.mem_of_getElem? (i := 3) rfl)) (by decide) (by decide)) q529a q529c (g := (mkF m 99 #[.val (.int p1), .val (.ref b2), .val (.int (5 : Int32)), .val (.int (1 : Int32))] [(.ref s_LESS)])) rfl (by rw [hml]; rfl) (Steps.refl _) (argsL := []) (rest := []) (lenOf pd0_0 rfl) rfl (by show 2 * 0 + _ ≤ _; exact Nat.le_of_eq rfl) (hb hby at_99) (fun _ _ => ⟨rfl, e442, (by decide : (0 + 1) + 0 ≤ _), (by decide : (0 + 11) + 0 ≤ _)⟩)
    dsimp only [Pt.U, Pt.locs, Pt.cells, Pt.slots] at X529 l529 y529 z529 st529 hQ529
    subst l529 y529 z529
    obtain ⟨r530, rfl, Nq529, ehq529, hq529⟩ := hQ529
    have N529 := Fr.app N442 Nq529
    have pre531 : ∀ tq, Steps p.tables e below (T529.setTop (mkF m 102 #[.val (.int p1), .val (.ref b2), .val (.int (5 : Int32)), .val (.int (1 : Int32))] [(.int r530)])) tq → Steps p.tables e below (s₁.setTop (entryFrame m #[(.int p1)] maxLocals)) tq := fun tq kq => pre528 tq (st529.trans kq)
    obtain ⟨v532, hj533, pre533⟩ : ∃ v532 : Int32, ((r530 = (1 : Int32) ∧ v532 = (1 : Int32)) ∨ (¬ (r530 = (1 : Int32)) ∧ v532 = (0 : Int32))) ∧ (∀ tq, Steps p.tables e below (T529.setTop (mkF m 111 #[.val (.int p1), .val (.ref b2), .val (.int (5 : Int32)), .val (.int (1 : Int32))] [(.int v532)])) tq → Steps p.tables e below (s₁.setTop (entryFrame m #[(.int p1)] maxLocals)) tq) := by
      by_cases hb0_103 : r530 = (1 : Int32)
      · skip
        refine ⟨(1 : Int32), Or.inl (⟨hb0_103, rfl⟩), fun tq kq => pre531 tq ?_⟩
        show Steps p.tables e below (T529.setTop (mkF m 102 #[.val (.int p1), .val (.ref b2), .val (.int (5 : Int32)), .val (.int (1 : Int32))] [(.int r530)])) _
        refine XS.iloadN X529.here hx rfl (hb hby at_102) rfl ?_
        show Steps p.tables e below (T529.setTop (mkF m 103 #[.val (.int p1), .val (.ref b2), .val (.int (5 : Int32)), .val (.int (1 : Int32))] [(.int (1 : Int32)), (.int r530)])) _
        refine XS.icmpNo X529.here hx rfl (hb hby at_103) rfl (teq hb0_103).2 ?_
        show Steps p.tables e below (T529.setTop (mkF m 106 #[.val (.int p1), .val (.ref b2), .val (.int (5 : Int32)), .val (.int (1 : Int32))] [])) _
        refine XS.iconst X529.here hx rfl (hb hby at_106) ?_
        show Steps p.tables e below (T529.setTop (mkF m 107 #[.val (.int p1), .val (.ref b2), .val (.int (5 : Int32)), .val (.int (1 : Int32))] [(.int (1 : Int32))])) _
        refine XS.goto X529.here hx rfl (pc0 := 107) (pc' := 111) rfl (hb hby at_107) (by decide) (by decide) ?_
        exact kq
      · skip
        refine ⟨(0 : Int32), Or.inr (⟨hb0_103, rfl⟩), fun tq kq => pre531 tq ?_⟩
        show Steps p.tables e below (T529.setTop (mkF m 102 #[.val (.int p1), .val (.ref b2), .val (.int (5 : Int32)), .val (.int (1 : Int32))] [(.int r530)])) _
        refine XS.iloadN X529.here hx rfl (hb hby at_102) rfl ?_
        show Steps p.tables e below (T529.setTop (mkF m 103 #[.val (.int p1), .val (.ref b2), .val (.int (5 : Int32)), .val (.int (1 : Int32))] [(.int (1 : Int32)), (.int r530)])) _
        refine XS.icmpYes X529.here hx rfl (pc0 := 103) (pc' := 110) rfl (hb hby at_103) rfl (feq hb0_103).2 (by decide) (by decide) ?_
        show Steps p.tables e below (T529.setTop (mkF m 110 #[.val (.int p1), .val (.ref b2), .val (.int (5 : Int32)), .val (.int (1 : Int32))] [])) _
        refine XS.iconst X529.here hx rfl (hb hby at_110) ?_
        exact kq
    have hfin : v532 = 1 := by
      simp only [Int32.lt_iff_toInt_lt, ← Int32.toInt_inj, Int32.reduceToInt, true_and, and_true, false_and, and_false, or_false, false_or, not_true_eq_false, not_false_eq_true, true_implies, false_implies] at hq529 hj533 ⊢ <;> omega
    subst hfin
    obtain ⟨fs, hr, hrun, hended, hW, hsame⟩ := X529.leave (v := some (.int (1 : Int32))) (fun h => by rw [Bd.returns] at h; cases h)
    refine ⟨_, _, pre533 _ ?_, hrun, hended, _, _, rfl, ?_, ⟨_, rfl⟩, hW, hsame.mono (by decide) (by decide)⟩
    · skip
      show Steps p.tables e below (T529.setTop (mkF m 111 #[.val (.int p1), .val (.ref b2), .val (.int (5 : Int32)), .val (.int (1 : Int32))] [(.int (1 : Int32))])) _
      exact retN X529 hx (t := .boolean) Bd.returns (by simp) (hb hby at_111) hr
    · show Q0 Z p1 s_TIMES s_DIVIDE s_REMAINDER s_PLUS s_MINUS s_LESS s_LESS_OR_EQUAL s_GREATER s_GREATER_OR_EQUAL s_EQUAL s_NOT_EQUAL h0 n0 _ T529.heap _
      rw [ehq529]
      exact ⟨rfl, N529⟩
  · skip
    subst hk
    have pre534 : ∀ tq, Steps p.tables e below (T442.setTop (mkF m 90 #[.val (.int p1), .val (.ref b2), .val (.int (6 : Int32)), .unset] [])) tq → Steps p.tables e below (s₁.setTop (entryFrame m #[(.int p1)] maxLocals)) tq := by
      refine fun tq kq => pre478 tq ?_
      show Steps p.tables e below (T442.setTop (mkF m 85 #[.val (.int p1), .val (.ref b2), .val (.int (6 : Int32)), .unset] [])) _
      refine XS.iloadN X442.here hx rfl (hb hby at_85) rfl ?_
      show Steps p.tables e below (T442.setTop (mkF m 86 #[.val (.int p1), .val (.ref b2), .val (.int (6 : Int32)), .unset] [(.int (6 : Int32))])) _
      refine XS.iconst X442.here hx rfl (hb hby at_86) ?_
      show Steps p.tables e below (T442.setTop (mkF m 87 #[.val (.int p1), .val (.ref b2), .val (.int (6 : Int32)), .unset] [(.int (5 : Int32)), (.int (6 : Int32))])) _
      refine XS.icmpNo X442.here hx rfl (hb hby at_87) rfl (flt (by decide : ¬ ((6 : Int32) < (5 : Int32)))).1 ?_
      exact kq
    have pre535 : ∀ tq, Steps p.tables e below (T442.setTop (mkF m 98 #[.val (.int p1), .val (.ref b2), .val (.int (6 : Int32)), .val (.int (1 : Int32))] [(.int (6 : Int32)), (.ref b2)])) tq → Steps p.tables e below (s₁.setTop (entryFrame m #[(.int p1)] maxLocals)) tq := by
      refine fun tq kq => pre534 tq ?_
      show Steps p.tables e below (T442.setTop (mkF m 90 #[.val (.int p1), .val (.ref b2), .val (.int (6 : Int32)), .unset] [])) _
      refine XS.iconst X442.here hx rfl (hb hby at_90) ?_
      show Steps p.tables e below (T442.setTop (mkF m 91 #[.val (.int p1), .val (.ref b2), .val (.int (6 : Int32)), .unset] [(.int (1 : Int32))])) _
      refine XS.goto X442.here hx rfl (pc0 := 91) (pc' := 95) rfl (hb hby at_91) (by decide) (by decide) ?_
      show Steps p.tables e below (T442.setTop (mkF m 95 #[.val (.int p1), .val (.ref b2), .val (.int (6 : Int32)), .unset] [(.int (1 : Int32))])) _
      refine XS.istoreN X442.here hx rfl (hb hby at_95) rfl (l' := #[.val (.int p1), .val (.ref b2), .val (.int (6 : Int32)), .val (.int (1 : Int32))]) rfl ?_
      show Steps p.tables e below (T442.setTop (mkF m 96 #[.val (.int p1), .val (.ref b2), .val (.int (6 : Int32)), .val (.int (1 : Int32))] [])) _
      refine XS.aloadN X442.here hx rfl (hb hby at_96) rfl rfl ?_
      show Steps p.tables e below (T442.setTop (mkF m 97 #[.val (.int p1), .val (.ref b2), .val (.int (6 : Int32)), .val (.int (1 : Int32))] [(.ref b2)])) _
      refine XS.iloadN X442.here hx rfl (hb hby at_97) rfl ?_
      exact kq
    have Vc536 := f477
    obtain ⟨cl536, Ar536, Aq536, As536, An536, Ah536, Ag536⟩ := Vc536
    have hin536 : ¬ ((6 : Int32) < 0 ∨ cl536.slots.size ≤ ((6 : Int32)).toNatClampNeg) := inb_of As536 ⟨by decide, by decide⟩
    have pre537 : ∀ tq, Steps p.tables e below (T442.setTop (mkF m 99 #[.val (.int p1), .val (.ref b2), .val (.int (6 : Int32)), .val (.int (1 : Int32))] [(.ref s_LESS_OR_EQUAL)])) tq → Steps p.tables e below (s₁.setTop (entryFrame m #[(.int p1)] maxLocals)) tq := fun tq kq => pre535 tq (X442.aaload hx (j := (6 : Int32)) (v := (.ref s_LESS_OR_EQUAL)) (by rw [e442]; exact Ar536.1) (State.isArrayOf_alike hZ.alike Ar536.2.1) rfl Ar536.2.2 hin536 (Has.at Ah536 hin536 rfl) (g := (mkF m 98 #[.val (.int p1), .val (.ref b2), .val (.int (6 : Int32)), .val (.int (1 : Int32))] [(.int (6 : Int32)), (.ref b2)])) rfl rfl (hb hby at_98) _ kq)
    have Z538 : n0 ≤ h442.size := (Nat.le_trans (Nat.le_trans (Nat.le_trans (Nat.le_trans (Nat.le_trans (Nat.le_trans (Nat.le_trans (Nat.le_trans (Nat.le_trans (Nat.le_trans (Nat.le_trans (Nat.le_trans Z0 E2.1) (Keep.of_wr W52).1) (Keep.of_wr W91).1) (Keep.of_wr W130).1) (Keep.of_wr W169).1) (Keep.of_wr W208).1) (Keep.of_wr W247).1) (Keep.of_wr W286).1) (Keep.of_wr W325).1) (Keep.of_wr W364).1) (Keep.of_wr W403).1) (Keep.of_wr W442).1)
    obtain ⟨cq538, kq538, q538a, q538b, q538c⟩ := isOf hZ e442 f457
    obtain ⟨_, _, ⟨T538, L538, k538, n538⟩, -, X538, ⟨Lc538, hQ538, l538, y538, z538⟩, st538⟩ := X442.virtualBack hx (y := (⟨"com/example/tidemark/tidemark/Expression$Operator", "compares", "()Z"⟩ : MethodName)) (z := (⟨"com/example/tidemark/tidemark/Expression$Operator", "compares", "()Z"⟩ : MethodName)) hown (mvT hZ (hw _ (List.mem_of_getElem? (i := 27) rfl))) (mvT hZ (hw _ (List.mem_of_getElem? (i := 28) rfl))) (notFace_of_selects (args := #[]) (mvT hZ (hw _ (List.mem_of_getElem? (i := 30) rfl)))) (mvT hZ (hw _ (List.mem_of_getElem? (i := 30) rfl))) (mvT hZ (hw _ (List.mem_of_getElem? (i := 29) rfl))) (by decide) (backOf (W := 0) (rm1 l Z a0 hw [] s_LESS_OR_EQUAL (2 : Int32) h442 n0 Z538 f475) hZ (hw _ (List.mem_of_getElem? (i := 31) rfl)) (hw _ (List.mem_of_getElem? (i := 3) rfl)) (by decide) (by decide)) q538a q538c (g := (mkF m 99 #[.val (.int p1), .val (.ref b2), .val (.int (6 : Int32)), .val (.int (1 : Int32))] [(.ref s_LESS_OR_EQUAL)])) rfl (by rw [hml]; rfl) (Steps.refl _) (argsL := []) (rest := []) (lenOf pd0_0 rfl) rfl (by show 2 * 0 + _ ≤ _; exact Nat.le_of_eq rfl) (hb hby at_99) (fun _ _ => ⟨rfl, e442, (by decide : (0 + 1) + 0 ≤ _), (by decide : (0 + 11) + 0 ≤ _)⟩)
    dsimp only [Pt.U, Pt.locs, Pt.cells, Pt.slots] at X538 l538 y538 z538 st538 hQ538
    subst l538 y538 z538
    obtain ⟨r539, rfl, Nq538, ehq538, hq538⟩ := hQ538
    have N538 := Fr.app N442 Nq538
    have pre540 : ∀ tq, Steps p.tables e below (T538.setTop (mkF m 102 #[.val (.int p1), .val (.ref b2), .val (.int (6 : Int32)), .val (.int (1 : Int32))] [(.int r539)])) tq → Steps p.tables e below (s₁.setTop (entryFrame m #[(.int p1)] maxLocals)) tq := fun tq kq => pre537 tq (st538.trans kq)
    obtain ⟨v541, hj542, pre542⟩ : ∃ v541 : Int32, ((r539 = (1 : Int32) ∧ v541 = (1 : Int32)) ∨ (¬ (r539 = (1 : Int32)) ∧ v541 = (0 : Int32))) ∧ (∀ tq, Steps p.tables e below (T538.setTop (mkF m 111 #[.val (.int p1), .val (.ref b2), .val (.int (6 : Int32)), .val (.int (1 : Int32))] [(.int v541)])) tq → Steps p.tables e below (s₁.setTop (entryFrame m #[(.int p1)] maxLocals)) tq) := by
      by_cases hb0_103 : r539 = (1 : Int32)
      · skip
        refine ⟨(1 : Int32), Or.inl (⟨hb0_103, rfl⟩), fun tq kq => pre540 tq ?_⟩
        show Steps p.tables e below (T538.setTop (mkF m 102 #[.val (.int p1), .val (.ref b2), .val (.int (6 : Int32)), .val (.int (1 : Int32))] [(.int r539)])) _
        refine XS.iloadN X538.here hx rfl (hb hby at_102) rfl ?_
        show Steps p.tables e below (T538.setTop (mkF m 103 #[.val (.int p1), .val (.ref b2), .val (.int (6 : Int32)), .val (.int (1 : Int32))] [(.int (1 : Int32)), (.int r539)])) _
        refine XS.icmpNo X538.here hx rfl (hb hby at_103) rfl (teq hb0_103).2 ?_
        show Steps p.tables e below (T538.setTop (mkF m 106 #[.val (.int p1), .val (.ref b2), .val (.int (6 : Int32)), .val (.int (1 : Int32))] [])) _
        refine XS.iconst X538.here hx rfl (hb hby at_106) ?_
        show Steps p.tables e below (T538.setTop (mkF m 107 #[.val (.int p1), .val (.ref b2), .val (.int (6 : Int32)), .val (.int (1 : Int32))] [(.int (1 : Int32))])) _
        refine XS.goto X538.here hx rfl (pc0 := 107) (pc' := 111) rfl (hb hby at_107) (by decide) (by decide) ?_
        exact kq
      · skip
        refine ⟨(0 : Int32), Or.inr (⟨hb0_103, rfl⟩), fun tq kq => pre540 tq ?_⟩
        show Steps p.tables e below (T538.setTop (mkF m 102 #[.val (.int p1), .val (.ref b2), .val (.int (6 : Int32)), .val (.int (1 : Int32))] [(.int r539)])) _
        refine XS.iloadN X538.here hx rfl (hb hby at_102) rfl ?_
        show Steps p.tables e below (T538.setTop (mkF m 103 #[.val (.int p1), .val (.ref b2), .val (.int (6 : Int32)), .val (.int (1 : Int32))] [(.int (1 : Int32)), (.int r539)])) _
        refine XS.icmpYes X538.here hx rfl (pc0 := 103) (pc' := 110) rfl (hb hby at_103) rfl (feq hb0_103).2 (by decide) (by decide) ?_
        show Steps p.tables e below (T538.setTop (mkF m 110 #[.val (.int p1), .val (.ref b2), .val (.int (6 : Int32)), .val (.int (1 : Int32))] [])) _
        refine XS.iconst X538.here hx rfl (hb hby at_110) ?_
        exact kq
    have hfin : v541 = 1 := by
      simp only [Int32.lt_iff_toInt_lt, ← Int32.toInt_inj, Int32.reduceToInt, true_and, and_true, false_and, and_false, or_false, false_or, not_true_eq_false, not_false_eq_true, true_implies, false_implies] at hq538 hj542 ⊢ <;> omega
    subst hfin
    obtain ⟨fs, hr, hrun, hended, hW, hsame⟩ := X538.leave (v := some (.int (1 : Int32))) (fun h => by rw [Bd.returns] at h; cases h)
    refine ⟨_, _, pre542 _ ?_, hrun, hended, _, _, rfl, ?_, ⟨_, rfl⟩, hW, hsame.mono (by decide) (by decide)⟩
    · skip
      show Steps p.tables e below (T538.setTop (mkF m 111 #[.val (.int p1), .val (.ref b2), .val (.int (6 : Int32)), .val (.int (1 : Int32))] [(.int (1 : Int32))])) _
      exact retN X538 hx (t := .boolean) Bd.returns (by simp) (hb hby at_111) hr
    · show Q0 Z p1 s_TIMES s_DIVIDE s_REMAINDER s_PLUS s_MINUS s_LESS s_LESS_OR_EQUAL s_GREATER s_GREATER_OR_EQUAL s_EQUAL s_NOT_EQUAL h0 n0 _ T538.heap _
      rw [ehq538]
      exact ⟨rfl, N538⟩
  · skip
    subst hk
    have pre543 : ∀ tq, Steps p.tables e below (T442.setTop (mkF m 90 #[.val (.int p1), .val (.ref b2), .val (.int (7 : Int32)), .unset] [])) tq → Steps p.tables e below (s₁.setTop (entryFrame m #[(.int p1)] maxLocals)) tq := by
      refine fun tq kq => pre478 tq ?_
      show Steps p.tables e below (T442.setTop (mkF m 85 #[.val (.int p1), .val (.ref b2), .val (.int (7 : Int32)), .unset] [])) _
      refine XS.iloadN X442.here hx rfl (hb hby at_85) rfl ?_
      show Steps p.tables e below (T442.setTop (mkF m 86 #[.val (.int p1), .val (.ref b2), .val (.int (7 : Int32)), .unset] [(.int (7 : Int32))])) _
      refine XS.iconst X442.here hx rfl (hb hby at_86) ?_
      show Steps p.tables e below (T442.setTop (mkF m 87 #[.val (.int p1), .val (.ref b2), .val (.int (7 : Int32)), .unset] [(.int (5 : Int32)), (.int (7 : Int32))])) _
      refine XS.icmpNo X442.here hx rfl (hb hby at_87) rfl (flt (by decide : ¬ ((7 : Int32) < (5 : Int32)))).1 ?_
      exact kq
    have pre544 : ∀ tq, Steps p.tables e below (T442.setTop (mkF m 98 #[.val (.int p1), .val (.ref b2), .val (.int (7 : Int32)), .val (.int (1 : Int32))] [(.int (7 : Int32)), (.ref b2)])) tq → Steps p.tables e below (s₁.setTop (entryFrame m #[(.int p1)] maxLocals)) tq := by
      refine fun tq kq => pre543 tq ?_
      show Steps p.tables e below (T442.setTop (mkF m 90 #[.val (.int p1), .val (.ref b2), .val (.int (7 : Int32)), .unset] [])) _
      refine XS.iconst X442.here hx rfl (hb hby at_90) ?_
      show Steps p.tables e below (T442.setTop (mkF m 91 #[.val (.int p1), .val (.ref b2), .val (.int (7 : Int32)), .unset] [(.int (1 : Int32))])) _
      refine XS.goto X442.here hx rfl (pc0 := 91) (pc' := 95) rfl (hb hby at_91) (by decide) (by decide) ?_
      show Steps p.tables e below (T442.setTop (mkF m 95 #[.val (.int p1), .val (.ref b2), .val (.int (7 : Int32)), .unset] [(.int (1 : Int32))])) _
      refine XS.istoreN X442.here hx rfl (hb hby at_95) rfl (l' := #[.val (.int p1), .val (.ref b2), .val (.int (7 : Int32)), .val (.int (1 : Int32))]) rfl ?_
      show Steps p.tables e below (T442.setTop (mkF m 96 #[.val (.int p1), .val (.ref b2), .val (.int (7 : Int32)), .val (.int (1 : Int32))] [])) _
      refine XS.aloadN X442.here hx rfl (hb hby at_96) rfl rfl ?_
      show Steps p.tables e below (T442.setTop (mkF m 97 #[.val (.int p1), .val (.ref b2), .val (.int (7 : Int32)), .val (.int (1 : Int32))] [(.ref b2)])) _
      refine XS.iloadN X442.here hx rfl (hb hby at_97) rfl ?_
      exact kq
    have Vc545 := f477
    obtain ⟨cl545, Ar545, Aq545, As545, An545, Ah545, Ag545⟩ := Vc545
    have hin545 : ¬ ((7 : Int32) < 0 ∨ cl545.slots.size ≤ ((7 : Int32)).toNatClampNeg) := inb_of As545 ⟨by decide, by decide⟩
    have pre546 : ∀ tq, Steps p.tables e below (T442.setTop (mkF m 99 #[.val (.int p1), .val (.ref b2), .val (.int (7 : Int32)), .val (.int (1 : Int32))] [(.ref s_GREATER)])) tq → Steps p.tables e below (s₁.setTop (entryFrame m #[(.int p1)] maxLocals)) tq := fun tq kq => pre544 tq (X442.aaload hx (j := (7 : Int32)) (v := (.ref s_GREATER)) (by rw [e442]; exact Ar545.1) (State.isArrayOf_alike hZ.alike Ar545.2.1) rfl Ar545.2.2 hin545 (Has.at Ah545 hin545 rfl) (g := (mkF m 98 #[.val (.int p1), .val (.ref b2), .val (.int (7 : Int32)), .val (.int (1 : Int32))] [(.int (7 : Int32)), (.ref b2)])) rfl rfl (hb hby at_98) _ kq)
    have Z547 : n0 ≤ h442.size := (Nat.le_trans (Nat.le_trans (Nat.le_trans (Nat.le_trans (Nat.le_trans (Nat.le_trans (Nat.le_trans (Nat.le_trans (Nat.le_trans (Nat.le_trans (Nat.le_trans (Nat.le_trans Z0 E2.1) (Keep.of_wr W52).1) (Keep.of_wr W91).1) (Keep.of_wr W130).1) (Keep.of_wr W169).1) (Keep.of_wr W208).1) (Keep.of_wr W247).1) (Keep.of_wr W286).1) (Keep.of_wr W325).1) (Keep.of_wr W364).1) (Keep.of_wr W403).1) (Keep.of_wr W442).1)
    obtain ⟨cq547, kq547, q547a, q547b, q547c⟩ := isOf hZ e442 f459
    obtain ⟨_, _, ⟨T547, L547, k547, n547⟩, -, X547, ⟨Lc547, hQ547, l547, y547, z547⟩, st547⟩ := X442.virtualBack hx (y := (⟨"com/example/tidemark/tidemark/Expression$Operator", "compares", "()Z"⟩ : MethodName)) (z := (⟨"com/example/tidemark/tidemark/Expression$Operator", "compares", "()Z"⟩ : MethodName)) hown (mvT hZ (hw _ (List.mem_of_getElem? (i := 27) rfl))) (mvT hZ (hw _ (List.mem_of_getElem? (i := 28) rfl))) (notFace_of_selects (args := #[]) (mvT hZ (hw _ (List.mem_of_getElem? (i := 30) rfl)))) (mvT hZ (hw _ (List.mem_of_getElem? (i := 30) rfl))) (mvT hZ (hw _ (List.mem_of_getElem? (i := 29) rfl))) (by decide) (backOf (W := 0) (rm1 l Z a0 hw [] s_GREATER (2 : Int32) h442 n0 Z547 f468) hZ (hw _ (List.mem_of_getElem? (i := 31) rfl)) (hw _ (List.mem_of_getElem? (i := 3) rfl)) (by decide) (by decide)) q547a q547c (g := (mkF m 99 #[.val (.int p1), .val (.ref b2), .val (.int (7 : Int32)), .val (.int (1 : Int32))] [(.ref s_GREATER)])) rfl (by rw [hml]; rfl) (Steps.refl _) (argsL := []) (rest := []) (lenOf pd0_0 rfl) rfl (by show 2 * 0 + _ ≤ _; exact Nat.le_of_eq rfl) (hb hby at_99) (fun _ _ => ⟨rfl, e442, (by decide : (0 + 1) + 0 ≤ _), (by decide : (0 + 11) + 0 ≤ _)⟩)
    dsimp only [Pt.U, Pt.locs, Pt.cells, Pt.slots] at X547 l547 y547 z547 st547 hQ547
    subst l547 y547 z547
    obtain ⟨r548, rfl, Nq547, ehq547, hq547⟩ := hQ547
    have N547 := Fr.app N442 Nq547
    have pre549 : ∀ tq, Steps p.tables e below (T547.setTop (mkF m 102 #[.val (.int p1), .val (.ref b2), .val (.int (7 : Int32)), .val (.int (1 : Int32))] [(.int r548)])) tq → Steps p.tables e below (s₁.setTop (entryFrame m #[(.int p1)] maxLocals)) tq := fun tq kq => pre546 tq (st547.trans kq)
    obtain ⟨v550, hj551, pre551⟩ : ∃ v550 : Int32, ((r548 = (1 : Int32) ∧ v550 = (1 : Int32)) ∨ (¬ (r548 = (1 : Int32)) ∧ v550 = (0 : Int32))) ∧ (∀ tq, Steps p.tables e below (T547.setTop (mkF m 111 #[.val (.int p1), .val (.ref b2), .val (.int (7 : Int32)), .val (.int (1 : Int32))] [(.int v550)])) tq → Steps p.tables e below (s₁.setTop (entryFrame m #[(.int p1)] maxLocals)) tq) := by
      by_cases hb0_103 : r548 = (1 : Int32)
      · skip
        refine ⟨(1 : Int32), Or.inl (⟨hb0_103, rfl⟩), fun tq kq => pre549 tq ?_⟩
        show Steps p.tables e below (T547.setTop (mkF m 102 #[.val (.int p1), .val (.ref b2), .val (.int (7 : Int32)), .val (.int (1 : Int32))] [(.int r548)])) _
        refine XS.iloadN X547.here hx rfl (hb hby at_102) rfl ?_
        show Steps p.tables e below (T547.setTop (mkF m 103 #[.val (.int p1), .val (.ref b2), .val (.int (7 : Int32)), .val (.int (1 : Int32))] [(.int (1 : Int32)), (.int r548)])) _
        refine XS.icmpNo X547.here hx rfl (hb hby at_103) rfl (teq hb0_103).2 ?_
        show Steps p.tables e below (T547.setTop (mkF m 106 #[.val (.int p1), .val (.ref b2), .val (.int (7 : Int32)), .val (.int (1 : Int32))] [])) _
        refine XS.iconst X547.here hx rfl (hb hby at_106) ?_
        show Steps p.tables e below (T547.setTop (mkF m 107 #[.val (.int p1), .val (.ref b2), .val (.int (7 : Int32)), .val (.int (1 : Int32))] [(.int (1 : Int32))])) _
        refine XS.goto X547.here hx rfl (pc0 := 107) (pc' := 111) rfl (hb hby at_107) (by decide) (by decide) ?_
        exact kq
      · skip
        refine ⟨(0 : Int32), Or.inr (⟨hb0_103, rfl⟩), fun tq kq => pre549 tq ?_⟩
        show Steps p.tables e below (T547.setTop (mkF m 102 #[.val (.int p1), .val (.ref b2), .val (.int (7 : Int32)), .val (.int (1 : Int32))] [(.int r548)])) _
        refine XS.iloadN X547.here hx rfl (hb hby at_102) rfl ?_
        show Steps p.tables e below (T547.setTop (mkF m 103 #[.val (.int p1), .val (.ref b2), .val (.int (7 : Int32)), .val (.int (1 : Int32))] [(.int (1 : Int32)), (.int r548)])) _
        refine XS.icmpYes X547.here hx rfl (pc0 := 103) (pc' := 110) rfl (hb hby at_103) rfl (feq hb0_103).2 (by decide) (by decide) ?_
        show Steps p.tables e below (T547.setTop (mkF m 110 #[.val (.int p1), .val (.ref b2), .val (.int (7 : Int32)), .val (.int (1 : Int32))] [])) _
        refine XS.iconst X547.here hx rfl (hb hby at_110) ?_
        exact kq
    have hfin : v550 = 1 := by
      simp only [Int32.lt_iff_toInt_lt, ← Int32.toInt_inj, Int32.reduceToInt, true_and, and_true, false_and, and_false, or_false, false_or, not_true_eq_false, not_false_eq_true, true_implies, false_implies] at hq547 hj551 ⊢ <;> omega
    subst hfin
    obtain ⟨fs, hr, hrun, hended, hW, hsame⟩ := X547.leave (v := some (.int (1 : Int32))) (fun h => by rw [Bd.returns] at h; cases h)
    refine ⟨_, _, pre551 _ ?_, hrun, hended, _, _, rfl, ?_, ⟨_, rfl⟩, hW, hsame.mono (by decide) (by decide)⟩
    · skip
      show Steps p.tables e below (T547.setTop (mkF m 111 #[.val (.int p1), .val (.ref b2), .val (.int (7 : Int32)), .val (.int (1 : Int32))] [(.int (1 : Int32))])) _
      exact retN X547 hx (t := .boolean) Bd.returns (by simp) (hb hby at_111) hr
    · show Q0 Z p1 s_TIMES s_DIVIDE s_REMAINDER s_PLUS s_MINUS s_LESS s_LESS_OR_EQUAL s_GREATER s_GREATER_OR_EQUAL s_EQUAL s_NOT_EQUAL h0 n0 _ T547.heap _
      rw [ehq547]
      exact ⟨rfl, N547⟩
  · skip
    subst hk
    have pre552 : ∀ tq, Steps p.tables e below (T442.setTop (mkF m 90 #[.val (.int p1), .val (.ref b2), .val (.int (8 : Int32)), .unset] [])) tq → Steps p.tables e below (s₁.setTop (entryFrame m #[(.int p1)] maxLocals)) tq := by
      refine fun tq kq => pre478 tq ?_
      show Steps p.tables e below (T442.setTop (mkF m 85 #[.val (.int p1), .val (.ref b2), .val (.int (8 : Int32)), .unset] [])) _
      refine XS.iloadN X442.here hx rfl (hb hby at_85) rfl ?_
      show Steps p.tables e below (T442.setTop (mkF m 86 #[.val (.int p1), .val (.ref b2), .val (.int (8 : Int32)), .unset] [(.int (8 : Int32))])) _
      refine XS.iconst X442.here hx rfl (hb hby at_86) ?_
      show Steps p.tables e below (T442.setTop (mkF m 87 #[.val (.int p1), .val (.ref b2), .val (.int (8 : Int32)), .unset] [(.int (5 : Int32)), (.int (8 : Int32))])) _
      refine XS.icmpNo X442.here hx rfl (hb hby at_87) rfl (flt (by decide : ¬ ((8 : Int32) < (5 : Int32)))).1 ?_
      exact kq
    have pre553 : ∀ tq, Steps p.tables e below (T442.setTop (mkF m 98 #[.val (.int p1), .val (.ref b2), .val (.int (8 : Int32)), .val (.int (1 : Int32))] [(.int (8 : Int32)), (.ref b2)])) tq → Steps p.tables e below (s₁.setTop (entryFrame m #[(.int p1)] maxLocals)) tq := by
      refine fun tq kq => pre552 tq ?_
      show Steps p.tables e below (T442.setTop (mkF m 90 #[.val (.int p1), .val (.ref b2), .val (.int (8 : Int32)), .unset] [])) _
      refine XS.iconst X442.here hx rfl (hb hby at_90) ?_
      show Steps p.tables e below (T442.setTop (mkF m 91 #[.val (.int p1), .val (.ref b2), .val (.int (8 : Int32)), .unset] [(.int (1 : Int32))])) _
      refine XS.goto X442.here hx rfl (pc0 := 91) (pc' := 95) rfl (hb hby at_91) (by decide) (by decide) ?_
      show Steps p.tables e below (T442.setTop (mkF m 95 #[.val (.int p1), .val (.ref b2), .val (.int (8 : Int32)), .unset] [(.int (1 : Int32))])) _
      refine XS.istoreN X442.here hx rfl (hb hby at_95) rfl (l' := #[.val (.int p1), .val (.ref b2), .val (.int (8 : Int32)), .val (.int (1 : Int32))]) rfl ?_
      show Steps p.tables e below (T442.setTop (mkF m 96 #[.val (.int p1), .val (.ref b2), .val (.int (8 : Int32)), .val (.int (1 : Int32))] [])) _
      refine XS.aloadN X442.here hx rfl (hb hby at_96) rfl rfl ?_
      show Steps p.tables e below (T442.setTop (mkF m 97 #[.val (.int p1), .val (.ref b2), .val (.int (8 : Int32)), .val (.int (1 : Int32))] [(.ref b2)])) _
      refine XS.iloadN X442.here hx rfl (hb hby at_97) rfl ?_
      exact kq
    have Vc554 := f477
    obtain ⟨cl554, Ar554, Aq554, As554, An554, Ah554, Ag554⟩ := Vc554
    have hin554 : ¬ ((8 : Int32) < 0 ∨ cl554.slots.size ≤ ((8 : Int32)).toNatClampNeg) := inb_of As554 ⟨by decide, by decide⟩
    have pre555 : ∀ tq, Steps p.tables e below (T442.setTop (mkF m 99 #[.val (.int p1), .val (.ref b2), .val (.int (8 : Int32)), .val (.int (1 : Int32))] [(.ref s_GREATER_OR_EQUAL)])) tq → Steps p.tables e below (s₁.setTop (entryFrame m #[(.int p1)] maxLocals)) tq := fun tq kq => pre553 tq (X442.aaload hx (j := (8 : Int32)) (v := (.ref s_GREATER_OR_EQUAL)) (by rw [e442]; exact Ar554.1) (State.isArrayOf_alike hZ.alike Ar554.2.1) rfl Ar554.2.2 hin554 (Has.at Ah554 hin554 rfl) (g := (mkF m 98 #[.val (.int p1), .val (.ref b2), .val (.int (8 : Int32)), .val (.int (1 : Int32))] [(.int (8 : Int32)), (.ref b2)])) rfl rfl (hb hby at_98) _ kq)
    have Z556 : n0 ≤ h442.size := (Nat.le_trans (Nat.le_trans (Nat.le_trans (Nat.le_trans (Nat.le_trans (Nat.le_trans (Nat.le_trans (Nat.le_trans (Nat.le_trans (Nat.le_trans (Nat.le_trans (Nat.le_trans Z0 E2.1) (Keep.of_wr W52).1) (Keep.of_wr W91).1) (Keep.of_wr W130).1) (Keep.of_wr W169).1) (Keep.of_wr W208).1) (Keep.of_wr W247).1) (Keep.of_wr W286).1) (Keep.of_wr W325).1) (Keep.of_wr W364).1) (Keep.of_wr W403).1) (Keep.of_wr W442).1)
    obtain ⟨cq556, kq556, q556a, q556b, q556c⟩ := isOf hZ e442 f461
    obtain ⟨_, _, ⟨T556, L556, k556, n556⟩, -, X556, ⟨Lc556, hQ556, l556, y556, z556⟩, st556⟩ := X442.virtualBack hx (y := (⟨"com/example/tidemark/tidemark/Expression$Operator", "compares", "()Z"⟩ : MethodName)) (z := (⟨"com/example/tidemark/tidemark/Expression$Operator", "compares", "()Z"⟩ : MethodName)) hown (mvT hZ (hw _ (List.mem_of_getElem? (i := 27) rfl))) (mvT hZ (hw _ (List.mem_of_getElem? (i := 28) rfl))) (notFace_of_selects (args := #[]) (mvT hZ (hw _ (List.mem_of_getElem? (i := 30) rfl)))) (mvT hZ (hw _ (List.mem_of_getElem? (i := 30) rfl))) (mvT hZ (hw _ (List.mem_of_getElem? (i := 29) rfl))) (by decide) (backOf (W := 0) (rm1 l Z a0 hw [] s_GREATER_OR_EQUAL (2 : Int32) h442 n0 Z556 f469) hZ (hw _ (List.mem_of_getElem? (i := 31) rfl)) (hw _ (List.mem_of_getElem? (i := 3) rfl)) (by decide) (by decide)) q556a q556c (g := (mkF m 99 #[.val (.int p1), .val (.ref b2), .val (.int (8 : Int32)), .val (.int (1 : Int32))] [(.ref s_GREATER_OR_EQUAL)])) rfl (by rw [hml]; rfl) (Steps.refl _) (argsL := []) (rest := []) (lenOf pd0_0 rfl) rfl (by show 2 * 0 + _ ≤ _; exact Nat.le_of_eq rfl) (hb hby at_99) (fun _ _ => ⟨rfl, e442, (by decide : (0 + 1) + 0 ≤ _), (by decide : (0 + 11) + 0 ≤ _)⟩)
    dsimp only [Pt.U, Pt.locs, Pt.cells, Pt.slots] at X556 l556 y556 z556 st556 hQ556
    subst l556 y556 z556
    obtain ⟨r557, rfl, Nq556, ehq556, hq556⟩ := hQ556
    have N556 := Fr.app N442 Nq556
    have pre558 : ∀ tq, Steps p.tables e below (T556.setTop (mkF m 102 #[.val (.int p1), .val (.ref b2), .val (.int (8 : Int32)), .val (.int (1 : Int32))] [(.int r557)])) tq → Steps p.tables e below (s₁.setTop (entryFrame m #[(.int p1)] maxLocals)) tq := fun tq kq => pre555 tq (st556.trans kq)
    obtain ⟨v559, hj560, pre560⟩ : ∃ v559 : Int32, ((r557 = (1 : Int32) ∧ v559 = (1 : Int32)) ∨ (¬ (r557 = (1 : Int32)) ∧ v559 = (0 : Int32))) ∧ (∀ tq, Steps p.tables e below (T556.setTop (mkF m 111 #[.val (.int p1), .val (.ref b2), .val (.int (8 : Int32)), .val (.int (1 : Int32))] [(.int v559)])) tq → Steps p.tables e below (s₁.setTop (entryFrame m #[(.int p1)] maxLocals)) tq) := by
      by_cases hb0_103 : r557 = (1 : Int32)
      · skip
        refine ⟨(1 : Int32), Or.inl (⟨hb0_103, rfl⟩), fun tq kq => pre558 tq ?_⟩
        show Steps p.tables e below (T556.setTop (mkF m 102 #[.val (.int p1), .val (.ref b2), .val (.int (8 : Int32)), .val (.int (1 : Int32))] [(.int r557)])) _
        refine XS.iloadN X556.here hx rfl (hb hby at_102) rfl ?_
        show Steps p.tables e below (T556.setTop (mkF m 103 #[.val (.int p1), .val (.ref b2), .val (.int (8 : Int32)), .val (.int (1 : Int32))] [(.int (1 : Int32)), (.int r557)])) _
        refine XS.icmpNo X556.here hx rfl (hb hby at_103) rfl (teq hb0_103).2 ?_
        show Steps p.tables e below (T556.setTop (mkF m 106 #[.val (.int p1), .val (.ref b2), .val (.int (8 : Int32)), .val (.int (1 : Int32))] [])) _
        refine XS.iconst X556.here hx rfl (hb hby at_106) ?_
        show Steps p.tables e below (T556.setTop (mkF m 107 #[.val (.int p1), .val (.ref b2), .val (.int (8 : Int32)), .val (.int (1 : Int32))] [(.int (1 : Int32))])) _
        refine XS.goto X556.here hx rfl (pc0 := 107) (pc' := 111) rfl (hb hby at_107) (by decide) (by decide) ?_
        exact kq
      · skip
        refine ⟨(0 : Int32), Or.inr (⟨hb0_103, rfl⟩), fun tq kq => pre558 tq ?_⟩
        show Steps p.tables e below (T556.setTop (mkF m 102 #[.val (.int p1), .val (.ref b2), .val (.int (8 : Int32)), .val (.int (1 : Int32))] [(.int r557)])) _
        refine XS.iloadN X556.here hx rfl (hb hby at_102) rfl ?_
        show Steps p.tables e below (T556.setTop (mkF m 103 #[.val (.int p1), .val (.ref b2), .val (.int (8 : Int32)), .val (.int (1 : Int32))] [(.int (1 : Int32)), (.int r557)])) _
        refine XS.icmpYes X556.here hx rfl (pc0 := 103) (pc' := 110) rfl (hb hby at_103) rfl (feq hb0_103).2 (by decide) (by decide) ?_
        show Steps p.tables e below (T556.setTop (mkF m 110 #[.val (.int p1), .val (.ref b2), .val (.int (8 : Int32)), .val (.int (1 : Int32))] [])) _
        refine XS.iconst X556.here hx rfl (hb hby at_110) ?_
        exact kq
    have hfin : v559 = 1 := by
      simp only [Int32.lt_iff_toInt_lt, ← Int32.toInt_inj, Int32.reduceToInt, true_and, and_true, false_and, and_false, or_false, false_or, not_true_eq_false, not_false_eq_true, true_implies, false_implies] at hq556 hj560 ⊢ <;> omega
    subst hfin
    obtain ⟨fs, hr, hrun, hended, hW, hsame⟩ := X556.leave (v := some (.int (1 : Int32))) (fun h => by rw [Bd.returns] at h; cases h)
    refine ⟨_, _, pre560 _ ?_, hrun, hended, _, _, rfl, ?_, ⟨_, rfl⟩, hW, hsame.mono (by decide) (by decide)⟩
    · skip
      show Steps p.tables e below (T556.setTop (mkF m 111 #[.val (.int p1), .val (.ref b2), .val (.int (8 : Int32)), .val (.int (1 : Int32))] [(.int (1 : Int32))])) _
      exact retN X556 hx (t := .boolean) Bd.returns (by simp) (hb hby at_111) hr
    · show Q0 Z p1 s_TIMES s_DIVIDE s_REMAINDER s_PLUS s_MINUS s_LESS s_LESS_OR_EQUAL s_GREATER s_GREATER_OR_EQUAL s_EQUAL s_NOT_EQUAL h0 n0 _ T556.heap _
      rw [ehq556]
      exact ⟨rfl, N556⟩
  · skip
    subst hk
    have pre561 : ∀ tq, Steps p.tables e below (T442.setTop (mkF m 90 #[.val (.int p1), .val (.ref b2), .val (.int (9 : Int32)), .unset] [])) tq → Steps p.tables e below (s₁.setTop (entryFrame m #[(.int p1)] maxLocals)) tq := by
      refine fun tq kq => pre478 tq ?_
      show Steps p.tables e below (T442.setTop (mkF m 85 #[.val (.int p1), .val (.ref b2), .val (.int (9 : Int32)), .unset] [])) _
      refine XS.iloadN X442.here hx rfl (hb hby at_85) rfl ?_
      show Steps p.tables e below (T442.setTop (mkF m 86 #[.val (.int p1), .val (.ref b2), .val (.int (9 : Int32)), .unset] [(.int (9 : Int32))])) _
      refine XS.iconst X442.here hx rfl (hb hby at_86) ?_
      show Steps p.tables e below (T442.setTop (mkF m 87 #[.val (.int p1), .val (.ref b2), .val (.int (9 : Int32)), .unset] [(.int (5 : Int32)), (.int (9 : Int32))])) _
      refine XS.icmpNo X442.here hx rfl (hb hby at_87) rfl (flt (by decide : ¬ ((9 : Int32) < (5 : Int32)))).1 ?_
      exact kq
    have pre562 : ∀ tq, Steps p.tables e below (T442.setTop (mkF m 98 #[.val (.int p1), .val (.ref b2), .val (.int (9 : Int32)), .val (.int (1 : Int32))] [(.int (9 : Int32)), (.ref b2)])) tq → Steps p.tables e below (s₁.setTop (entryFrame m #[(.int p1)] maxLocals)) tq := by
      refine fun tq kq => pre561 tq ?_
      show Steps p.tables e below (T442.setTop (mkF m 90 #[.val (.int p1), .val (.ref b2), .val (.int (9 : Int32)), .unset] [])) _
      refine XS.iconst X442.here hx rfl (hb hby at_90) ?_
      show Steps p.tables e below (T442.setTop (mkF m 91 #[.val (.int p1), .val (.ref b2), .val (.int (9 : Int32)), .unset] [(.int (1 : Int32))])) _
      refine XS.goto X442.here hx rfl (pc0 := 91) (pc' := 95) rfl (hb hby at_91) (by decide) (by decide) ?_
      show Steps p.tables e below (T442.setTop (mkF m 95 #[.val (.int p1), .val (.ref b2), .val (.int (9 : Int32)), .unset] [(.int (1 : Int32))])) _
      refine XS.istoreN X442.here hx rfl (hb hby at_95) rfl (l' := #[.val (.int p1), .val (.ref b2), .val (.int (9 : Int32)), .val (.int (1 : Int32))]) rfl ?_
      show Steps p.tables e below (T442.setTop (mkF m 96 #[.val (.int p1), .val (.ref b2), .val (.int (9 : Int32)), .val (.int (1 : Int32))] [])) _
      refine XS.aloadN X442.here hx rfl (hb hby at_96) rfl rfl ?_
      show Steps p.tables e below (T442.setTop (mkF m 97 #[.val (.int p1), .val (.ref b2), .val (.int (9 : Int32)), .val (.int (1 : Int32))] [(.ref b2)])) _
      refine XS.iloadN X442.here hx rfl (hb hby at_97) rfl ?_
      exact kq
    have Vc563 := f477
    obtain ⟨cl563, Ar563, Aq563, As563, An563, Ah563, Ag563⟩ := Vc563
    have hin563 : ¬ ((9 : Int32) < 0 ∨ cl563.slots.size ≤ ((9 : Int32)).toNatClampNeg) := inb_of As563 ⟨by decide, by decide⟩
    have pre564 : ∀ tq, Steps p.tables e below (T442.setTop (mkF m 99 #[.val (.int p1), .val (.ref b2), .val (.int (9 : Int32)), .val (.int (1 : Int32))] [(.ref s_EQUAL)])) tq → Steps p.tables e below (s₁.setTop (entryFrame m #[(.int p1)] maxLocals)) tq := fun tq kq => pre562 tq (X442.aaload hx (j := (9 : Int32)) (v := (.ref s_EQUAL)) (by rw [e442]; exact Ar563.1) (State.isArrayOf_alike hZ.alike Ar563.2.1) rfl Ar563.2.2 hin563 (Has.at Ah563 hin563 rfl) (g := (mkF m 98 #[.val (.int p1), .val (.ref b2), .val (.int (9 : Int32)), .val (.int (1 : Int32))] [(.int (9 : Int32)), (.ref b2)])) rfl rfl (hb hby at_98) _ kq)
    have Z565 : n0 ≤ h442.size := (Nat.le_trans (Nat.le_trans (Nat.le_trans (Nat.le_trans (Nat.le_trans (Nat.le_trans (Nat.le_trans (Nat.le_trans (Nat.le_trans (Nat.le_trans (Nat.le_trans (Nat.le_trans Z0 E2.1) (Keep.of_wr W52).1) (Keep.of_wr W91).1) (Keep.of_wr W130).1) (Keep.of_wr W169).1) (Keep.of_wr W208).1) (Keep.of_wr W247).1) (Keep.of_wr W286).1) (Keep.of_wr W325).1) (Keep.of_wr W364).1) (Keep.of_wr W403).1) (Keep.of_wr W442).1)
    obtain ⟨cq565, kq565, q565a, q565b, q565c⟩ := isOf hZ e442 f463
    obtain ⟨_, _, ⟨T565, L565, k565, n565⟩, -, X565, ⟨Lc565, hQ565, l565, y565, z565⟩, st565⟩ := X442.virtualBack hx (y := (⟨"com/example/tidemark/tidemark/Expression$Operator", "compares", "()Z"⟩ : MethodName)) (z := (⟨"com/example/tidemark/tidemark/Expression$Operator", "compares", "()Z"⟩ : MethodName)) hown (mvT hZ (hw _ (List.mem_of_getElem? (i := 27) rfl))) (mvT hZ (hw _ (List.mem_of_getElem? (i := 28) rfl))) (notFace_of_selects (args := #[]) (mvT hZ (hw _ (List.mem_of_getElem? (i := 30) rfl)))) (mvT hZ (hw _ (List.mem_of_getElem? (i := 30) rfl))) (mvT hZ (hw _ (List.mem_of_getElem? (i := 29) rfl))) (by decide) (backOf (W := 0) (rm1 l Z a0 hw [] s_EQUAL (2 : Int32) h442 n0 Z565 f473) hZ (hw _ (List.mem_of_getElem? (i := 31) rfl)) (hw _ (List.mem_of_getElem? (i := 3) rfl)) (by decide) (by decide)) q565a q565c (g := (mkF m 99 #[.val (.int p1), .val (.ref b2), .val (.int (9 : Int32)), .val (.int (1 : Int32))] [(.ref s_EQUAL)])) rfl (by rw [hml]; rfl) (Steps.refl _) (argsL := []) (rest := []) (lenOf pd0_0 rfl) rfl (by show 2 * 0 + _ ≤ _; exact Nat.le_of_eq rfl) (hb hby at_99) (fun _ _ => ⟨rfl, e442, (by decide : (0 + 1) + 0 ≤ _), (by decide : (0 + 11) + 0 ≤ _)⟩)
    dsimp only [Pt.U, Pt.locs, Pt.cells, Pt.slots] at X565 l565 y565 z565 st565 hQ565
    subst l565 y565 z565
    obtain ⟨r566, rfl, Nq565, ehq565, hq565⟩ := hQ565
    have N565 := Fr.app N442 Nq565
    have pre567 : ∀ tq, Steps p.tables e below (T565.setTop (mkF m 102 #[.val (.int p1), .val (.ref b2), .val (.int (9 : Int32)), .val (.int (1 : Int32))] [(.int r566)])) tq → Steps p.tables e below (s₁.setTop (entryFrame m #[(.int p1)] maxLocals)) tq := fun tq kq => pre564 tq (st565.trans kq)
    obtain ⟨v568, hj569, pre569⟩ : ∃ v568 : Int32, ((r566 = (1 : Int32) ∧ v568 = (1 : Int32)) ∨ (¬ (r566 = (1 : Int32)) ∧ v568 = (0 : Int32))) ∧ (∀ tq, Steps p.tables e below (T565.setTop (mkF m 111 #[.val (.int p1), .val (.ref b2), .val (.int (9 : Int32)), .val (.int (1 : Int32))] [(.int v568)])) tq → Steps p.tables e below (s₁.setTop (entryFrame m #[(.int p1)] maxLocals)) tq) := by
      by_cases hb0_103 : r566 = (1 : Int32)
      · skip
        refine ⟨(1 : Int32), Or.inl (⟨hb0_103, rfl⟩), fun tq kq => pre567 tq ?_⟩
        show Steps p.tables e below (T565.setTop (mkF m 102 #[.val (.int p1), .val (.ref b2), .val (.int (9 : Int32)), .val (.int (1 : Int32))] [(.int r566)])) _
        refine XS.iloadN X565.here hx rfl (hb hby at_102) rfl ?_
        show Steps p.tables e below (T565.setTop (mkF m 103 #[.val (.int p1), .val (.ref b2), .val (.int (9 : Int32)), .val (.int (1 : Int32))] [(.int (1 : Int32)), (.int r566)])) _
        refine XS.icmpNo X565.here hx rfl (hb hby at_103) rfl (teq hb0_103).2 ?_
        show Steps p.tables e below (T565.setTop (mkF m 106 #[.val (.int p1), .val (.ref b2), .val (.int (9 : Int32)), .val (.int (1 : Int32))] [])) _
        refine XS.iconst X565.here hx rfl (hb hby at_106) ?_
        show Steps p.tables e below (T565.setTop (mkF m 107 #[.val (.int p1), .val (.ref b2), .val (.int (9 : Int32)), .val (.int (1 : Int32))] [(.int (1 : Int32))])) _
        refine XS.goto X565.here hx rfl (pc0 := 107) (pc' := 111) rfl (hb hby at_107) (by decide) (by decide) ?_
        exact kq
      · skip
        refine ⟨(0 : Int32), Or.inr (⟨hb0_103, rfl⟩), fun tq kq => pre567 tq ?_⟩
        show Steps p.tables e below (T565.setTop (mkF m 102 #[.val (.int p1), .val (.ref b2), .val (.int (9 : Int32)), .val (.int (1 : Int32))] [(.int r566)])) _
        refine XS.iloadN X565.here hx rfl (hb hby at_102) rfl ?_
        show Steps p.tables e below (T565.setTop (mkF m 103 #[.val (.int p1), .val (.ref b2), .val (.int (9 : Int32)), .val (.int (1 : Int32))] [(.int (1 : Int32)), (.int r566)])) _
        refine XS.icmpYes X565.here hx rfl (pc0 := 103) (pc' := 110) rfl (hb hby at_103) rfl (feq hb0_103).2 (by decide) (by decide) ?_
        show Steps p.tables e below (T565.setTop (mkF m 110 #[.val (.int p1), .val (.ref b2), .val (.int (9 : Int32)), .val (.int (1 : Int32))] [])) _
        refine XS.iconst X565.here hx rfl (hb hby at_110) ?_
        exact kq
    have hfin : v568 = 1 := by
      simp only [Int32.lt_iff_toInt_lt, ← Int32.toInt_inj, Int32.reduceToInt, true_and, and_true, false_and, and_false, or_false, false_or, not_true_eq_false, not_false_eq_true, true_implies, false_implies] at hq565 hj569 ⊢ <;> omega
    subst hfin
    obtain ⟨fs, hr, hrun, hended, hW, hsame⟩ := X565.leave (v := some (.int (1 : Int32))) (fun h => by rw [Bd.returns] at h; cases h)
    refine ⟨_, _, pre569 _ ?_, hrun, hended, _, _, rfl, ?_, ⟨_, rfl⟩, hW, hsame.mono (by decide) (by decide)⟩
    · skip
      show Steps p.tables e below (T565.setTop (mkF m 111 #[.val (.int p1), .val (.ref b2), .val (.int (9 : Int32)), .val (.int (1 : Int32))] [(.int (1 : Int32))])) _
      exact retN X565 hx (t := .boolean) Bd.returns (by simp) (hb hby at_111) hr
    · show Q0 Z p1 s_TIMES s_DIVIDE s_REMAINDER s_PLUS s_MINUS s_LESS s_LESS_OR_EQUAL s_GREATER s_GREATER_OR_EQUAL s_EQUAL s_NOT_EQUAL h0 n0 _ T565.heap _
      rw [ehq565]
      exact ⟨rfl, N565⟩
  · skip
    subst hk
    have pre570 : ∀ tq, Steps p.tables e below (T442.setTop (mkF m 90 #[.val (.int p1), .val (.ref b2), .val (.int (10 : Int32)), .unset] [])) tq → Steps p.tables e below (s₁.setTop (entryFrame m #[(.int p1)] maxLocals)) tq := by
      refine fun tq kq => pre478 tq ?_
      show Steps p.tables e below (T442.setTop (mkF m 85 #[.val (.int p1), .val (.ref b2), .val (.int (10 : Int32)), .unset] [])) _
      refine XS.iloadN X442.here hx rfl (hb hby at_85) rfl ?_
      show Steps p.tables e below (T442.setTop (mkF m 86 #[.val (.int p1), .val (.ref b2), .val (.int (10 : Int32)), .unset] [(.int (10 : Int32))])) _
      refine XS.iconst X442.here hx rfl (hb hby at_86) ?_
      show Steps p.tables e below (T442.setTop (mkF m 87 #[.val (.int p1), .val (.ref b2), .val (.int (10 : Int32)), .unset] [(.int (5 : Int32)), (.int (10 : Int32))])) _
      refine XS.icmpNo X442.here hx rfl (hb hby at_87) rfl (flt (by decide : ¬ ((10 : Int32) < (5 : Int32)))).1 ?_
      exact kq
    have pre571 : ∀ tq, Steps p.tables e below (T442.setTop (mkF m 98 #[.val (.int p1), .val (.ref b2), .val (.int (10 : Int32)), .val (.int (1 : Int32))] [(.int (10 : Int32)), (.ref b2)])) tq → Steps p.tables e below (s₁.setTop (entryFrame m #[(.int p1)] maxLocals)) tq := by
      refine fun tq kq => pre570 tq ?_
      show Steps p.tables e below (T442.setTop (mkF m 90 #[.val (.int p1), .val (.ref b2), .val (.int (10 : Int32)), .unset] [])) _
      refine XS.iconst X442.here hx rfl (hb hby at_90) ?_
      show Steps p.tables e below (T442.setTop (mkF m 91 #[.val (.int p1), .val (.ref b2), .val (.int (10 : Int32)), .unset] [(.int (1 : Int32))])) _
      refine XS.goto X442.here hx rfl (pc0 := 91) (pc' := 95) rfl (hb hby at_91) (by decide) (by decide) ?_
      show Steps p.tables e below (T442.setTop (mkF m 95 #[.val (.int p1), .val (.ref b2), .val (.int (10 : Int32)), .unset] [(.int (1 : Int32))])) _
      refine XS.istoreN X442.here hx rfl (hb hby at_95) rfl (l' := #[.val (.int p1), .val (.ref b2), .val (.int (10 : Int32)), .val (.int (1 : Int32))]) rfl ?_
      show Steps p.tables e below (T442.setTop (mkF m 96 #[.val (.int p1), .val (.ref b2), .val (.int (10 : Int32)), .val (.int (1 : Int32))] [])) _
      refine XS.aloadN X442.here hx rfl (hb hby at_96) rfl rfl ?_
      show Steps p.tables e below (T442.setTop (mkF m 97 #[.val (.int p1), .val (.ref b2), .val (.int (10 : Int32)), .val (.int (1 : Int32))] [(.ref b2)])) _
      refine XS.iloadN X442.here hx rfl (hb hby at_97) rfl ?_
      exact kq
    have Vc572 := f477
    obtain ⟨cl572, Ar572, Aq572, As572, An572, Ah572, Ag572⟩ := Vc572
    have hin572 : ¬ ((10 : Int32) < 0 ∨ cl572.slots.size ≤ ((10 : Int32)).toNatClampNeg) := inb_of As572 ⟨by decide, by decide⟩
    have pre573 : ∀ tq, Steps p.tables e below (T442.setTop (mkF m 99 #[.val (.int p1), .val (.ref b2), .val (.int (10 : Int32)), .val (.int (1 : Int32))] [(.ref s_NOT_EQUAL)])) tq → Steps p.tables e below (s₁.setTop (entryFrame m #[(.int p1)] maxLocals)) tq := fun tq kq => pre571 tq (X442.aaload hx (j := (10 : Int32)) (v := (.ref s_NOT_EQUAL)) (by rw [e442]; exact Ar572.1) (State.isArrayOf_alike hZ.alike Ar572.2.1) rfl Ar572.2.2 hin572 (Has.at Ah572 hin572 rfl) (g := (mkF m 98 #[.val (.int p1), .val (.ref b2), .val (.int (10 : Int32)), .val (.int (1 : Int32))] [(.int (10 : Int32)), (.ref b2)])) rfl rfl (hb hby at_98) _ kq)
    have Z574 : n0 ≤ h442.size := (Nat.le_trans (Nat.le_trans (Nat.le_trans (Nat.le_trans (Nat.le_trans (Nat.le_trans (Nat.le_trans (Nat.le_trans (Nat.le_trans (Nat.le_trans (Nat.le_trans (Nat.le_trans Z0 E2.1) (Keep.of_wr W52).1) (Keep.of_wr W91).1) (Keep.of_wr W130).1) (Keep.of_wr W169).1) (Keep.of_wr W208).1) (Keep.of_wr W247).1) (Keep.of_wr W286).1) (Keep.of_wr W325).1) (Keep.of_wr W364).1) (Keep.of_wr W403).1) (Keep.of_wr W442).1)
    obtain ⟨cq574, kq574, q574a, q574b, q574c⟩ := isOf hZ e442 f465
    obtain ⟨_, _, ⟨T574, L574, k574, n574⟩, -, X574, ⟨Lc574, hQ574, l574, y574, z574⟩, st574⟩ := X442.virtualBack hx (y := (⟨"com/example/tidemark/tidemark/Expression$Operator", "compares", "()Z"⟩ : MethodName)) (z := (⟨"com/example/tidemark/tidemark/Expression$Operator", "compares", "()Z"⟩ : MethodName)) hown (mvT hZ (hw _ (List.mem_of_getElem? (i := 27) rfl))) (mvT hZ (hw _ (List.mem_of_getElem? (i := 28) rfl))) (notFace_of_selects (args := #[]) (mvT hZ (hw _ (List.mem_of_getElem? (i := 30) rfl)))) (mvT hZ (hw _ (List.mem_of_getElem? (i := 30) rfl))) (mvT hZ (hw _ (List.mem_of_getElem? (i := 29) rfl))) (by decide) (backOf (W := 0) (rm1 l Z a0 hw [] s_NOT_EQUAL (2 : Int32) h442 n0 Z574 f471) hZ (hw _ (List.mem_of_getElem? (i := 31) rfl)) (hw _ (List.mem_of_getElem? (i := 3) rfl)) (by decide) (by decide)) q574a q574c (g := (mkF m 99 #[.val (.int p1), .val (.ref b2), .val (.int (10 : Int32)), .val (.int (1 : Int32))] [(.ref s_NOT_EQUAL)])) rfl (by rw [hml]; rfl) (Steps.refl _) (argsL := []) (rest := []) (lenOf pd0_0 rfl) rfl (by show 2 * 0 + _ ≤ _; exact Nat.le_of_eq rfl) (hb hby at_99) (fun _ _ => ⟨rfl, e442, (by decide : (0 + 1) + 0 ≤ _), (by decide : (0 + 11) + 0 ≤ _)⟩)
    dsimp only [Pt.U, Pt.locs, Pt.cells, Pt.slots] at X574 l574 y574 z574 st574 hQ574
    subst l574 y574 z574
    obtain ⟨r575, rfl, Nq574, ehq574, hq574⟩ := hQ574
    have N574 := Fr.app N442 Nq574
    have pre576 : ∀ tq, Steps p.tables e below (T574.setTop (mkF m 102 #[.val (.int p1), .val (.ref b2), .val (.int (10 : Int32)), .val (.int (1 : Int32))] [(.int r575)])) tq → Steps p.tables e below (s₁.setTop (entryFrame m #[(.int p1)] maxLocals)) tq := fun tq kq => pre573 tq (st574.trans kq)
    obtain ⟨v577, hj578, pre578⟩ : ∃ v577 : Int32, ((r575 = (1 : Int32) ∧ v577 = (1 : Int32)) ∨ (¬ (r575 = (1 : Int32)) ∧ v577 = (0 : Int32))) ∧ (∀ tq, Steps p.tables e below (T574.setTop (mkF m 111 #[.val (.int p1), .val (.ref b2), .val (.int (10 : Int32)), .val (.int (1 : Int32))] [(.int v577)])) tq → Steps p.tables e below (s₁.setTop (entryFrame m #[(.int p1)] maxLocals)) tq) := by
      by_cases hb0_103 : r575 = (1 : Int32)
      · skip
        refine ⟨(1 : Int32), Or.inl (⟨hb0_103, rfl⟩), fun tq kq => pre576 tq ?_⟩
        show Steps p.tables e below (T574.setTop (mkF m 102 #[.val (.int p1), .val (.ref b2), .val (.int (10 : Int32)), .val (.int (1 : Int32))] [(.int r575)])) _
        refine XS.iloadN X574.here hx rfl (hb hby at_102) rfl ?_
        show Steps p.tables e below (T574.setTop (mkF m 103 #[.val (.int p1), .val (.ref b2), .val (.int (10 : Int32)), .val (.int (1 : Int32))] [(.int (1 : Int32)), (.int r575)])) _
        refine XS.icmpNo X574.here hx rfl (hb hby at_103) rfl (teq hb0_103).2 ?_
        show Steps p.tables e below (T574.setTop (mkF m 106 #[.val (.int p1), .val (.ref b2), .val (.int (10 : Int32)), .val (.int (1 : Int32))] [])) _
        refine XS.iconst X574.here hx rfl (hb hby at_106) ?_
        show Steps p.tables e below (T574.setTop (mkF m 107 #[.val (.int p1), .val (.ref b2), .val (.int (10 : Int32)), .val (.int (1 : Int32))] [(.int (1 : Int32))])) _
        refine XS.goto X574.here hx rfl (pc0 := 107) (pc' := 111) rfl (hb hby at_107) (by decide) (by decide) ?_
        exact kq
      · skip
        refine ⟨(0 : Int32), Or.inr (⟨hb0_103, rfl⟩), fun tq kq => pre576 tq ?_⟩
        show Steps p.tables e below (T574.setTop (mkF m 102 #[.val (.int p1), .val (.ref b2), .val (.int (10 : Int32)), .val (.int (1 : Int32))] [(.int r575)])) _
        refine XS.iloadN X574.here hx rfl (hb hby at_102) rfl ?_
        show Steps p.tables e below (T574.setTop (mkF m 103 #[.val (.int p1), .val (.ref b2), .val (.int (10 : Int32)), .val (.int (1 : Int32))] [(.int (1 : Int32)), (.int r575)])) _
        refine XS.icmpYes X574.here hx rfl (pc0 := 103) (pc' := 110) rfl (hb hby at_103) rfl (feq hb0_103).2 (by decide) (by decide) ?_
        show Steps p.tables e below (T574.setTop (mkF m 110 #[.val (.int p1), .val (.ref b2), .val (.int (10 : Int32)), .val (.int (1 : Int32))] [])) _
        refine XS.iconst X574.here hx rfl (hb hby at_110) ?_
        exact kq
    have hfin : v577 = 1 := by
      simp only [Int32.lt_iff_toInt_lt, ← Int32.toInt_inj, Int32.reduceToInt, true_and, and_true, false_and, and_false, or_false, false_or, not_true_eq_false, not_false_eq_true, true_implies, false_implies] at hq574 hj578 ⊢ <;> omega
    subst hfin
    obtain ⟨fs, hr, hrun, hended, hW, hsame⟩ := X574.leave (v := some (.int (1 : Int32))) (fun h => by rw [Bd.returns] at h; cases h)
    refine ⟨_, _, pre578 _ ?_, hrun, hended, _, _, rfl, ?_, ⟨_, rfl⟩, hW, hsame.mono (by decide) (by decide)⟩
    · skip
      show Steps p.tables e below (T574.setTop (mkF m 111 #[.val (.int p1), .val (.ref b2), .val (.int (10 : Int32)), .val (.int (1 : Int32))] [(.int (1 : Int32))])) _
      exact retN X574 hx (t := .boolean) Bd.returns (by simp) (hb hby at_111) hr
    · show Q0 Z p1 s_TIMES s_DIVIDE s_REMAINDER s_PLUS s_MINUS s_LESS s_LESS_OR_EQUAL s_GREATER s_GREATER_OR_EQUAL s_EQUAL s_NOT_EQUAL h0 n0 _ T574.heap _
      rw [ehq574]
      exact ⟨rfl, N574⟩
set_option maxRecDepth 65536 in
set_option maxHeartbeats 40000000 in
theorem comes_1 {Post : Tables → Env → Array Value → State → Outcome → State → Prop} (hpost : ∀ tb e args s v u, (limb_1_1.after args s (.returned v) u = true ∧ limb_1_2.after args s (.returned v) u = true ∧ True) → FrameEnd s (.returned v) u (Jvm.fieldLocs frame_1_writes args s ++ Jvm.arrayLocs frame_1_arrays args s ++ Jvm.staticLocs frame_1_statics s) 16 128 → Post tb e args s (.returned v) u) :
    ArmFor flags0 classFile x code maxLocals ret World_1 tables_1 room_1 Calls_1 rest_1 Pre_1 Post := by
  intro l hfl _ _ p e ha hc hk s m args below hf hA hF happ hP
  obtain ⟨hcalls, hrest, hpre⟩ := hP
  obtain ⟨-, -, -, hnamed, -, -, -, hat⟩ := (Spec.applies_iff hf).mp happ
  obtain ⟨hg, hn⟩ := and_e (Cond.before_iff.mp (show (Jvm.Cond.and given_1 narrow_1).before args s = true from hpre))
  obtain ⟨k0, g0⟩ := and_e hg
  obtain ⟨w0, rfl⟩ : ∃ w0 : Value, args = #[w0] := by
    have hs : args.size = 1 := by simpa [Cond.value, given_1] using k0
    obtain ⟨L⟩ := args
    match L, hs with
    | [w0], _ => exact ⟨w0, rfl⟩
  have hw := fun d (hd : d ∈ tables_1) => atoms_spec (ws := Jvm.Cond.code x code maxLocals ret :: tables_1) hat d (List.mem_cons_of_mem _ hd)
  have hfit : Fit s := fun {y c} hc i hi => by
    obtain ⟨ha, rfl⟩ := Array.getElem?_eq_some_iff.mp hc
    have q := List.all_eq_true.mp ((Array.all_eq_true_iff_forall_mem.mp hF) _ (Array.getElem_mem ha)) i (List.mem_range.mpr hi)
    simpa [Array.getElem?_eq_getElem hi] using q
  obtain ⟨i0, ei0⟩ := is_v g0
  obtain rfl : w0 = (.int i0) := Option.some.inj ei0
  obtain ⟨m0, hn1⟩ := and_e hn
  obtain ⟨s_TIMES, x_TIMES⟩ := exa_v m0
  have E_s_TIMES := Exa.start x_TIMES m0
  have S_TIMES := Sta.start x_TIMES (Or.inr ⟨(hw _ (List.mem_of_getElem? (i := 3) rfl)), (hw _ (List.mem_of_getElem? (i := 4) rfl))⟩)
  obtain ⟨m1, hn2⟩ := and_e hn1
  obtain ⟨s_DIVIDE, x_DIVIDE⟩ := exa_v m1
  have E_s_DIVIDE := Exa.start x_DIVIDE m1
  have S_DIVIDE := Sta.start x_DIVIDE (Or.inr ⟨(hw _ (List.mem_of_getElem? (i := 3) rfl)), (hw _ (List.mem_of_getElem? (i := 7) rfl))⟩)
  obtain ⟨m2, hn3⟩ := and_e hn2
  obtain ⟨s_REMAINDER, x_REMAINDER⟩ := exa_v m2
  have E_s_REMAINDER := Exa.start x_REMAINDER m2
  have S_REMAINDER := Sta.start x_REMAINDER (Or.inr ⟨(hw _ (List.mem_of_getElem? (i := 3) rfl)), (hw _ (List.mem_of_getElem? (i := 9) rfl))⟩)
  obtain ⟨m3, hn4⟩ := and_e hn3
  obtain ⟨s_PLUS, x_PLUS⟩ := exa_v m3
  have E_s_PLUS := Exa.start x_PLUS m3
  have S_PLUS := Sta.start x_PLUS (Or.inr ⟨(hw _ (List.mem_of_getElem? (i := 3) rfl)), (hw _ (List.mem_of_getElem? (i := 11) rfl))⟩)
  obtain ⟨m4, hn5⟩ := and_e hn4
  obtain ⟨s_MINUS, x_MINUS⟩ := exa_v m4
  have E_s_MINUS := Exa.start x_MINUS m4
  have S_MINUS := Sta.start x_MINUS (Or.inr ⟨(hw _ (List.mem_of_getElem? (i := 3) rfl)), (hw _ (List.mem_of_getElem? (i := 13) rfl))⟩)
  obtain ⟨m5, hn6⟩ := and_e hn5
  obtain ⟨s_LESS, x_LESS⟩ := exa_v m5
  have E_s_LESS := Exa.start x_LESS m5
  have S_LESS := Sta.start x_LESS (Or.inr ⟨(hw _ (List.mem_of_getElem? (i := 3) rfl)), (hw _ (List.mem_of_getElem? (i := 15) rfl))⟩)
  obtain ⟨m6, hn7⟩ := and_e hn6
  obtain ⟨s_LESS_OR_EQUAL, x_LESS_OR_EQUAL⟩ := exa_v m6
  have E_s_LESS_OR_EQUAL := Exa.start x_LESS_OR_EQUAL m6
  have S_LESS_OR_EQUAL := Sta.start x_LESS_OR_EQUAL (Or.inr ⟨(hw _ (List.mem_of_getElem? (i := 3) rfl)), (hw _ (List.mem_of_getElem? (i := 17) rfl))⟩)
  obtain ⟨m7, hn8⟩ := and_e hn7
  obtain ⟨s_GREATER, x_GREATER⟩ := exa_v m7
  have E_s_GREATER := Exa.start x_GREATER m7
  have S_GREATER := Sta.start x_GREATER (Or.inr ⟨(hw _ (List.mem_of_getElem? (i := 3) rfl)), (hw _ (List.mem_of_getElem? (i := 19) rfl))⟩)
  obtain ⟨m8, hn9⟩ := and_e hn8
  obtain ⟨s_GREATER_OR_EQUAL, x_GREATER_OR_EQUAL⟩ := exa_v m8
  have E_s_GREATER_OR_EQUAL := Exa.start x_GREATER_OR_EQUAL m8
  have S_GREATER_OR_EQUAL := Sta.start x_GREATER_OR_EQUAL (Or.inr ⟨(hw _ (List.mem_of_getElem? (i := 3) rfl)), (hw _ (List.mem_of_getElem? (i := 21) rfl))⟩)
  obtain ⟨m9, hn10⟩ := and_e hn9
  obtain ⟨s_EQUAL, x_EQUAL⟩ := exa_v m9
  have E_s_EQUAL := Exa.start x_EQUAL m9
  have S_EQUAL := Sta.start x_EQUAL (Or.inr ⟨(hw _ (List.mem_of_getElem? (i := 3) rfl)), (hw _ (List.mem_of_getElem? (i := 23) rfl))⟩)
  obtain ⟨m10, hn11⟩ := and_e hn10
  obtain ⟨s_NOT_EQUAL, x_NOT_EQUAL⟩ := exa_v m10
  have E_s_NOT_EQUAL := Exa.start x_NOT_EQUAL m10
  have S_NOT_EQUAL := Sta.start x_NOT_EQUAL (Or.inr ⟨(hw _ (List.mem_of_getElem? (i := 3) rfl)), (hw _ (List.mem_of_getElem? (i := 25) rfl))⟩)
  obtain ⟨m11, hn12⟩ := and_e hn11
  have F_level_s_TIMES := Fld.start ((fld_at x_TIMES).symm.trans (eqv_i (Term.int_eval _) m11))
  obtain ⟨m12, hn13⟩ := and_e hn12
  have F_level_s_PLUS := Fld.start ((fld_at x_PLUS).symm.trans (eqv_i (Term.int_eval _) m12))
  obtain ⟨m13, hn14⟩ := and_e hn13
  have F_level_s_GREATER := Fld.start ((fld_at x_GREATER).symm.trans (eqv_i (Term.int_eval _) m13))
  obtain ⟨m14, hn15⟩ := and_e hn14
  have F_level_s_GREATER_OR_EQUAL := Fld.start ((fld_at x_GREATER_OR_EQUAL).symm.trans (eqv_i (Term.int_eval _) m14))
  obtain ⟨m15, hn16⟩ := and_e hn15
  have F_level_s_REMAINDER := Fld.start ((fld_at x_REMAINDER).symm.trans (eqv_i (Term.int_eval _) m15))
  obtain ⟨m16, hn17⟩ := and_e hn16
  have F_level_s_NOT_EQUAL := Fld.start ((fld_at x_NOT_EQUAL).symm.trans (eqv_i (Term.int_eval _) m16))
  obtain ⟨m17, hn18⟩ := and_e hn17
  have F_level_s_DIVIDE := Fld.start ((fld_at x_DIVIDE).symm.trans (eqv_i (Term.int_eval _) m17))
  obtain ⟨m18, hn19⟩ := and_e hn18
  have F_level_s_EQUAL := Fld.start ((fld_at x_EQUAL).symm.trans (eqv_i (Term.int_eval _) m18))
  obtain ⟨m19, hn20⟩ := and_e hn19
  have F_level_s_LESS := Fld.start ((fld_at x_LESS).symm.trans (eqv_i (Term.int_eval _) m19))
  obtain ⟨m20, hn21⟩ := and_e hn20
  have F_level_s_LESS_OR_EQUAL := Fld.start ((fld_at x_LESS_OR_EQUAL).symm.trans (eqv_i (Term.int_eval _) m20))
  have F_level_s_MINUS := Fld.start ((fld_at x_MINUS).symm.trans (eqv_i (Term.int_eval _) hn21))
  obtain ⟨n, o, h1, h2, h3, _, L, rfl, ⟨rfl, N⟩, hq⟩ := rm0 l s _ hw tables_1 i0 s_TIMES s_DIVIDE s_REMAINDER s_PLUS s_MINUS s_LESS s_LESS_OR_EQUAL s_GREATER s_GREATER_OR_EQUAL s_EQUAL s_NOT_EQUAL s.heap s.heap.size (Nat.le_refl _) S_TIMES E_s_TIMES S_DIVIDE E_s_DIVIDE S_REMAINDER E_s_REMAINDER S_PLUS E_s_PLUS S_MINUS E_s_MINUS S_LESS E_s_LESS S_LESS_OR_EQUAL E_s_LESS_OR_EQUAL S_GREATER E_s_GREATER S_GREATER_OR_EQUAL E_s_GREATER_OR_EQUAL S_EQUAL E_s_EQUAL S_NOT_EQUAL E_s_NOT_EQUAL F_level_s_TIMES F_level_s_PLUS F_level_s_GREATER F_level_s_GREATER_OR_EQUAL F_level_s_REMAINDER F_level_s_NOT_EQUAL F_level_s_DIVIDE F_level_s_EQUAL F_level_s_LESS F_level_s_LESS_OR_EQUAL F_level_s_MINUS p e ha hc hk s m _ below hf ((Spec.applies_iff_loose hf).mp happ).1 ⟨rfl, State.Warmed39.refl s, rfl⟩ trivial
  refine ⟨n, _, h1, h2, h3, hpost _ _ _ _ _ _ ⟨Cond.after_iff.mpr rfl, Cond.after_iff.mpr (eq_i res_at (Term.int_eval (1)) rfl), trivial⟩ ⟨hq.1, hq.2.1, (hq.2.2.sift fun y hy => Or.inr (N y hy)).mono (by decide) (by decide)⟩⟩
theorem main_1_1 : Claimed_1_1 := comes_1 fun _ _ _ _ _ _ h hF => ⟨h.1, hF⟩
theorem main_1_2 : Claimed_1_2 := comes_1 fun _ _ _ _ _ _ h hF => ⟨h.2.1, hF⟩
end Jvm.Pilot.@@N@@
namespace Jvm.Pilot.@@N@@
open Jvm Jvm.ClassFile Sem Op Lib Jvm.Free Jvm.Stand Jvm.Pilot.@@N@@.Jvm.D
/-! MADE BY PROGRAM (witnessworld.py) out of the Statement's table words and the real class files: 13 classes; the members and pool entries that the words name. The judged class is class 1, her method 1. -/
namespace start1
open Jvm.ClassFile
def u (s : String) : CpInfo := .utf8 (stringToUtf16 s)
/-- a pool by its gaps: so many unusable entries, then the entry; so many at the end -/
def gap : Nat → List CpInfo → List CpInfo
  | 0, r => r
  | n + 1, r => .unusable :: gap n r
def poolList (es : List (Nat × CpInfo)) (last : Nat) : List CpInfo := es.foldr (fun e r => gap e.1 (e.2 :: r)) (gap last [])
def pool (es : List (Nat × CpInfo)) (last : Nat) : Array CpInfo := ⟨poolList es last⟩
def fileOf (pool : Array CpInfo) (this : Nat) (attrs : Array Attribute := #[]) (ms : Array MethodInfo := #[]) (fl : Nat := 33) (sup : Nat := 0) (ifs : Array Nat := #[]) (fds : Array FieldInfo := #[]) : ClassFile where
  minorVersion := 0
  majorVersion := 65
  constantPool := pool
  accessFlags := fl
  thisClass := this
  superClass := sup
  interfaces := ifs
  fields := fds
  methods := ms
  attributes := attrs
def plain (name : String) (sup : Option ClassId) : Class where
  name := name
  kind := .ordinary
  loader := none
  accessFlags := 33
  super := sup
  interfaces := #[]
  cf := none
  fields := #[]
  methods := #[]
  instanceTypes := #[]
  staticTypes := #[]
  resolved := #[]
  callSites := []
  init := .initialized
  statics := none
  mirror := none

def pool0 : Array CpInfo := pool [(5, u "<init>"), (0, u "()V"), (1, .class_ 10), (1, u "java/lang/Object")] 113

def k0m0 : Method := { name := "<init>", desc := "()V", sig := { parameters := [], returnType := none }, accessFlags := 1, code := none }
/-- java/lang/Object -/
def k0 : Class := { plain "java/lang/Object" none with
  accessFlags := 33
  interfaces := #[]
  cf := some (fileOf pool0 8 #[] #[{ accessFlags := 1, nameIndex := 5, descriptorIndex := 6, attributes := #[] }] 33 0 #[] #[])
  fields := #[]
  methods := #[k0m0]
  instanceTypes := #[]
  staticTypes := #[]
  resolved := Array.replicate 124 none
  statics := none }

def pool1 : Array CpInfo := pool [(2, .class_ 4), (1, u "java/lang/Object"), (0, u "<init>"), (0, u "()V"), (0, .class_ 8), (0, u "com/example/tidemark/tidemark/Expression$Operator"), (0, .fieldref 7 10), (0, .nameAndType 11 12), (0, u "TIMES"), (0, u "Lcom/example/tidemark/tidemark/Expression$Operator;"), (0, .fieldref 7 14), (0, .nameAndType 15 12), (0, u "DIVIDE"), (0, .fieldref 7 17), (0, .nameAndType 18 12), (0, u "REMAINDER"), (0, .fieldref 7 20), (0, .nameAndType 21 12), (0, u "PLUS"), (0, .fieldref 7 23), (0, .nameAndType 24 12), (0, u "MINUS"), (0, .fieldref 7 26), (0, .nameAndType 27 12), (0, u "LESS"), (0, .fieldref 7 29), (0, .nameAndType 30 12), (0, u "LESS_OR_EQUAL"), (0, .fieldref 7 32), (0, .nameAndType 33 12), (0, u "GREATER"), (0, .fieldref 7 35), (0, .nameAndType 36 12), (0, u "GREATER_OR_EQUAL"), (0, .fieldref 7 38), (0, .nameAndType 39 12), (0, u "EQUAL"), (0, .fieldref 7 41), (0, .nameAndType 42 12), (0, u "NOT_EQUAL"), (0, .integer 2147483647), (0, .methodref 7 45), (0, .nameAndType 46 47), (0, u "compares"), (0, u "()Z"), (0, .class_ 49), (0, u "com/example/tidemark/tidemark/OperatorComparesPinLaw"), (2, u "law"), (0, u "(I)Z")] 9

def k1m0 : Method := { name := "<init>", desc := "()V", sig := { parameters := [], returnType := none }, accessFlags := 1, code := none }
def k1c1 : Code := { maxStack := 4, maxLocals := 4, code := code, exceptionTable := #[], attributes := #[] }
def k1m1 : Method := { name := "law", desc := "(I)Z", sig := { parameters := [.int], returnType := some .boolean }, accessFlags := 9, code := some k1c1 }
/-- com/example/tidemark/tidemark/OperatorComparesPinLaw -/
def k1 : Class := { plain "com/example/tidemark/tidemark/OperatorComparesPinLaw" (some 0) with
  accessFlags := 49
  interfaces := #[]
  cf := some (fileOf pool1 48 #[] #[{ accessFlags := 1, nameIndex := 5, descriptorIndex := 6, attributes := #[] }, { accessFlags := 9, nameIndex := 52, descriptorIndex := 53, attributes := #[] }] 49 2 #[] #[])
  fields := #[]
  methods := #[k1m0, k1m1]
  instanceTypes := #[]
  staticTypes := #[]
  resolved := Array.replicate 63 none
  statics := none }

def pool2 : Array CpInfo := pool [(1, .class_ 2), (0, u "java/lang/constant/Constable"), (0, .class_ 4), (0, u "java/lang/Object")] 6

/-- java/lang/constant/Constable -/
def k2 : Class := { plain "java/lang/constant/Constable" (some 0) with
  accessFlags := 1537
  interfaces := #[]
  cf := some (fileOf pool2 1 #[] #[] 1537 3 #[] #[])
  fields := #[]
  methods := #[]
  instanceTypes := #[]
  staticTypes := #[]
  resolved := Array.replicate 11 none
  statics := none }

def pool3 : Array CpInfo := pool [(1, .class_ 2), (0, u "java/lang/Comparable"), (0, .class_ 4), (0, u "java/lang/Object")] 7

/-- java/lang/Comparable -/
def k3 : Class := { plain "java/lang/Comparable" (some 0) with
  accessFlags := 1537
  interfaces := #[]
  cf := some (fileOf pool3 1 #[] #[] 1537 3 #[] #[])
  fields := #[]
  methods := #[]
  instanceTypes := #[]
  staticTypes := #[]
  resolved := Array.replicate 12 none
  statics := none }

def pool4 : Array CpInfo := pool [(1, .class_ 2), (0, u "java/io/Serializable"), (0, .class_ 4), (0, u "java/lang/Object")] 2

/-- java/io/Serializable -/
def k4 : Class := { plain "java/io/Serializable" (some 0) with
  accessFlags := 1537
  interfaces := #[]
  cf := some (fileOf pool4 1 #[] #[] 1537 3 #[] #[])
  fields := #[]
  methods := #[]
  instanceTypes := #[]
  staticTypes := #[]
  resolved := Array.replicate 7 none
  statics := none }

def pool5 : Array CpInfo := pool [(2, .class_ 4), (1, u "java/lang/Enum"), (0, u "name"), (0, u "Ljava/lang/String;"), (2, u "ordinal"), (0, u "I"), (1, .class_ 14), (1, u "java/lang/Object"), (4, u "hash"), (86, .class_ 108), (1, u "java/lang/Enum$EnumDesc"), (2, .class_ 112), (0, u "java/lang/constant/Constable"), (0, .class_ 114), (0, u "java/lang/Comparable"), (0, .class_ 116), (0, u "java/io/Serializable")] 87

/-- java/lang/Enum -/
def k5 : Class := { plain "java/lang/Enum" (some 0) with
  accessFlags := 1057
  interfaces := #[2, 3, 4]
  cf := some (fileOf pool5 2 #[.nestMembers #[106]] #[] 1057 12 #[111, 113, 115] #[{ accessFlags := 18, nameIndex := 5, descriptorIndex := 6, attributes := #[] }, { accessFlags := 18, nameIndex := 9, descriptorIndex := 10, attributes := #[] }, { accessFlags := 2, nameIndex := 19, descriptorIndex := 10, attributes := #[] }])
  fields := #[{ name := "name", type := (.object "java/lang/String"), accessFlags := 18, slot := 0, constantValue := 0 }, { name := "ordinal", type := .int, accessFlags := 18, slot := 1, constantValue := 0 }, { name := "hash", type := .int, accessFlags := 2, slot := 2, constantValue := 0 }]
  methods := #[]
  instanceTypes := #[(.object "java/lang/String"), .int, .int]
  staticTypes := #[]
  resolved := Array.replicate 204 none
  statics := none }

def pool6 : Array CpInfo := pool [(1, .class_ 2), (0, u "com/example/tidemark/tidemark/Expression$Operator"), (2, u "TIMES"), (0, u "Lcom/example/tidemark/tidemark/Expression$Operator;"), (2, u "DIVIDE"), (2, u "REMAINDER"), (2, u "PLUS"), (2, u "MINUS"), (2, u "LESS"), (2, u "LESS_OR_EQUAL"), (2, u "GREATER"), (2, u "GREATER_OR_EQUAL"), (2, u "EQUAL"), (2, u "NOT_EQUAL"), (2, u "$VALUES"), (0, u "[Lcom/example/tidemark/tidemark/Expression$Operator;"), (6, .class_ 49), (1, u "java/lang/Enum"), (8, u "symbol"), (0, u "Ljava/lang/String;"), (0, .fieldref 1 61), (0, .nameAndType 62 63), (0, u "level"), (0, u "I"), (49, u "COMPARISON"), (10, u "compares"), (0, u "()Z"), (8, .class_ 135), (0, u "com/example/tidemark/tidemark/Expression")] 2

def k6c0 : Code := { maxStack := 2, maxLocals := 1, code := prog_22_method_5_code, exceptionTable := #[], attributes := #[] }
def k6m0 : Method := { name := "compares", desc := "()Z", sig := { parameters := [], returnType := some .boolean }, accessFlags := 1, code := some k6c0 }
/-- com/example/tidemark/tidemark/Expression$Operator -/
def k6 : Class := { plain "com/example/tidemark/tidemark/Expression$Operator" (some 5) with
  accessFlags := 16433
  interfaces := #[]
  cf := some (fileOf pool6 1 #[.nestHost 134] #[{ accessFlags := 1, nameIndex := 124, descriptorIndex := 125, attributes := #[] }] 16433 47 #[] #[{ accessFlags := 16409, nameIndex := 5, descriptorIndex := 6, attributes := #[] }, { accessFlags := 16409, nameIndex := 9, descriptorIndex := 6, attributes := #[] }, { accessFlags := 16409, nameIndex := 12, descriptorIndex := 6, attributes := #[] }, { accessFlags := 16409, nameIndex := 15, descriptorIndex := 6, attributes := #[] }, { accessFlags := 16409, nameIndex := 18, descriptorIndex := 6, attributes := #[] }, { accessFlags := 16409, nameIndex := 21, descriptorIndex := 6, attributes := #[] }, { accessFlags := 16409, nameIndex := 24, descriptorIndex := 6, attributes := #[] }, { accessFlags := 16409, nameIndex := 27, descriptorIndex := 6, attributes := #[] }, { accessFlags := 16409, nameIndex := 30, descriptorIndex := 6, attributes := #[] }, { accessFlags := 16409, nameIndex := 33, descriptorIndex := 6, attributes := #[] }, { accessFlags := 16409, nameIndex := 36, descriptorIndex := 6, attributes := #[] }, { accessFlags := 24, nameIndex := 113, descriptorIndex := 63, attributes := #[] }, { accessFlags := 18, nameIndex := 58, descriptorIndex := 59, attributes := #[] }, { accessFlags := 18, nameIndex := 62, descriptorIndex := 63, attributes := #[] }, { accessFlags := 4122, nameIndex := 39, descriptorIndex := 40, attributes := #[] }])
  fields := #[{ name := "TIMES", type := (.object "com/example/tidemark/tidemark/Expression$Operator"), accessFlags := 16409, slot := 0, constantValue := 0 }, { name := "DIVIDE", type := (.object "com/example/tidemark/tidemark/Expression$Operator"), accessFlags := 16409, slot := 1, constantValue := 0 }, { name := "REMAINDER", type := (.object "com/example/tidemark/tidemark/Expression$Operator"), accessFlags := 16409, slot := 2, constantValue := 0 }, { name := "PLUS", type := (.object "com/example/tidemark/tidemark/Expression$Operator"), accessFlags := 16409, slot := 3, constantValue := 0 }, { name := "MINUS", type := (.object "com/example/tidemark/tidemark/Expression$Operator"), accessFlags := 16409, slot := 4, constantValue := 0 }, { name := "LESS", type := (.object "com/example/tidemark/tidemark/Expression$Operator"), accessFlags := 16409, slot := 5, constantValue := 0 }, { name := "LESS_OR_EQUAL", type := (.object "com/example/tidemark/tidemark/Expression$Operator"), accessFlags := 16409, slot := 6, constantValue := 0 }, { name := "GREATER", type := (.object "com/example/tidemark/tidemark/Expression$Operator"), accessFlags := 16409, slot := 7, constantValue := 0 }, { name := "GREATER_OR_EQUAL", type := (.object "com/example/tidemark/tidemark/Expression$Operator"), accessFlags := 16409, slot := 8, constantValue := 0 }, { name := "EQUAL", type := (.object "com/example/tidemark/tidemark/Expression$Operator"), accessFlags := 16409, slot := 9, constantValue := 0 }, { name := "NOT_EQUAL", type := (.object "com/example/tidemark/tidemark/Expression$Operator"), accessFlags := 16409, slot := 10, constantValue := 0 }, { name := "COMPARISON", type := .int, accessFlags := 24, slot := 11, constantValue := 0 }, { name := "symbol", type := (.object "java/lang/String"), accessFlags := 18, slot := 3, constantValue := 0 }, { name := "level", type := .int, accessFlags := 18, slot := 4, constantValue := 0 }, { name := "$VALUES", type := (.array (.object "com/example/tidemark/tidemark/Expression$Operator")), accessFlags := 4122, slot := 12, constantValue := 0 }]
  methods := #[k6m0]
  instanceTypes := #[(.object "java/lang/String"), .int, .int, (.object "java/lang/String"), .int]
  staticTypes := #[(.object "com/example/tidemark/tidemark/Expression$Operator"), (.object "com/example/tidemark/tidemark/Expression$Operator"), (.object "com/example/tidemark/tidemark/Expression$Operator"), (.object "com/example/tidemark/tidemark/Expression$Operator"), (.object "com/example/tidemark/tidemark/Expression$Operator"), (.object "com/example/tidemark/tidemark/Expression$Operator"), (.object "com/example/tidemark/tidemark/Expression$Operator"), (.object "com/example/tidemark/tidemark/Expression$Operator"), (.object "com/example/tidemark/tidemark/Expression$Operator"), (.object "com/example/tidemark/tidemark/Expression$Operator"), (.object "com/example/tidemark/tidemark/Expression$Operator"), .int, (.array (.object "com/example/tidemark/tidemark/Expression$Operator"))]
  resolved := Array.replicate 138 none
  statics := some 0 }

def pool7 : Array CpInfo := pool [(1, u "java/lang/Cloneable"), (0, .class_ 1), (0, u "java/lang/Object"), (0, .class_ 3)] 3

/-- java/lang/Cloneable -/
def k7 : Class := { plain "java/lang/Cloneable" (some 0) with
  accessFlags := 1537
  interfaces := #[]
  cf := some (fileOf pool7 2 #[] #[] 1537 4 #[] #[])
  fields := #[]
  methods := #[]
  instanceTypes := #[]
  staticTypes := #[]
  resolved := Array.replicate 8 none
  statics := none }

/-- the primitive byte -/
def k8 : Class := { plain "byte" none with kind := .primitive 'B', accessFlags := 0x411 }
/-- [B -/
def k9 : Class := { plain "[B" (some 0) with kind := .array 8 .byte, interfaces := #[7, 4], accessFlags := 1041 }

/-- the primitive int -/
def k10 : Class := { plain "int" none with kind := .primitive 'I', accessFlags := 0x411 }
/-- [I -/
def k11 : Class := { plain "[I" (some 0) with kind := .array 10 .int, interfaces := #[7, 4], accessFlags := 1041 }

/-- [Lcom/example/tidemark/tidemark/Expression$Operator; -/
def k12 : Class := { plain "[Lcom/example/tidemark/tidemark/Expression$Operator;" (some 0) with kind := .array 6 (.object "com/example/tidemark/tidemark/Expression$Operator"), interfaces := #[7, 4], accessFlags := 1041 }

def heap : Heap := #[{ cls := 6, slots := #[.ref 1, .ref 2, .ref 3, .ref 4, .ref 5, .ref 6, .ref 7, .ref 8, .ref 9, .ref 10, .ref 11, .int 0, .null], vm := .statics 6 },
  { cls := 6, slots := #[.null, .int 0, .int 0, .null, .int 0], vm := .none },
  { cls := 6, slots := #[.null, .int 1, .int 0, .null, .int 0], vm := .none },
  { cls := 6, slots := #[.null, .int 2, .int 0, .null, .int 0], vm := .none },
  { cls := 6, slots := #[.null, .int 3, .int 0, .null, .int 1], vm := .none },
  { cls := 6, slots := #[.null, .int 4, .int 0, .null, .int 1], vm := .none },
  { cls := 6, slots := #[.null, .int 5, .int 0, .null, .int 2], vm := .none },
  { cls := 6, slots := #[.null, .int 6, .int 0, .null, .int 2], vm := .none },
  { cls := 6, slots := #[.null, .int 7, .int 0, .null, .int 2], vm := .none },
  { cls := 6, slots := #[.null, .int 8, .int 0, .null, .int 2], vm := .none },
  { cls := 6, slots := #[.null, .int 9, .int 0, .null, .int 2], vm := .none },
  { cls := 6, slots := #[.null, .int 10, .int 0, .null, .int 2], vm := .none }]
def classes : Array Class := #[k0, k1, k2, k3, k4, k5, k6, k7, k8, k9, k10, k11, k12]
def interned : List (Array UInt16 × Addr) := []
def slotsUsed : Nat := 68
def theMethod : MethodId := ⟨1, 1⟩
def args0 : Array Value := #[.int 3]
def aboutOver (below : List Frame) : State where
  vm := { classes := classes, interned := interned.toArray }
  heap := heap
  slotsUsed := slotsUsed
  threads := #[{ frames := .invoking theMethod args0 :: below }]
def below0 : List Frame := [.native { method := ⟨0, 0⟩, args := #[] }]
def about1 : State := aboutOver below0
def p0 : Program := .bare "" "" ""
def e0 : Env := launch0.env 0 0 0
theorem w_frames : about1.frames = Frame.invoking theMethod args0 :: below0 := rfl
set_option maxRecDepth 65536 in
theorem w_args : argsFit about1.vm theMethod args0 = true := by decide +kernel
set_option maxRecDepth 65536 in
theorem w_heap : heapFits about1 = true := by decide +kernel
set_option maxRecDepth 65536 in
theorem w_runnable : about1.curStatus? = some .runnable := by decide +kernel
set_option maxRecDepth 65536 in
theorem w_alone : about1.alone = true := by decide +kernel
set_option maxRecDepth 65536 in
theorem w_named : about1.methodNamed? x = some theMethod := by decide +kernel
set_option maxRecDepth 65536 in
theorem w_hears : about1.hears theMethod below0 = true := by decide +kernel
set_option maxRecDepth 65536 in
theorem w_ripe : about1.ripe theMethod args0 below0 = true := by decide +kernel
theorem w_running : about1.status = .running := rfl
set_option maxRecDepth 65536 in
theorem w_room : about1.hasRoom e0.platform room_1 = true :=
  launch0.hasRoom_least _ room_1 (by decide +kernel) (by decide +kernel) (by decide +kernel) (by decide +kernel) (by decide +kernel) (by decide +kernel)
theorem allAtoms_all (ts : List Jvm.Cond) (a : Array Jvm.Value) (st : Jvm.State) : (allAtoms ts).before a st = ts.all (fun c => c.before a st) := by
  induction ts with
  | nil => rfl
  | cons c t ih =>
    show (Jvm.Cond.and c (allAtoms t)).before a st = _
    rw [Jvm.Cond.before_and, ih, List.all_cons]
def words1 : List Jvm.Cond := Jvm.Cond.code x code maxLocals ret :: tables_1
/-- a 'code' word, met by the world's own term for the bytes: nothing is compared byte by byte -/
theorem code_word {y : MethodName} {bytes : ByteArray} {mx : Nat} {rt : Option FieldType} {a : Array Value} {s : State} {m : MethodId} {meth : Method} {c : Code} (h1 : s.methodNamed? y = some m) (h2 : s.vm.method? m = some meth) (h3 : meth.code = some c) (h4 : c.code = bytes)
    (h5 : (c.maxLocals == mx && c.exceptionTable.isEmpty && decide (c.maxStack ≤ mostOperands) && decide (meth.sig.returnType = rt) && !meth.locks && decide (parseMethodDescriptor y.desc = some meth.sig)) = true) : (Jvm.Cond.code y bytes mx rt).before a s = true := by
  simp only [Bool.and_eq_true, beq_iff_eq, Bool.not_eq_true', decide_eq_true_eq] at h5
  obtain ⟨⟨⟨⟨⟨g1, g2⟩, g3⟩, g4⟩, g5⟩, g6⟩ := h5
  simp [Cond.before, Cond.holds, Cond.value, h1, h2, h3, h4, g1, g2, g3, g4, g5, g6]
def isCode : Jvm.Cond → Bool
  | .code _ _ _ _ => true
  | _ => false
theorem all_split {L : List Jvm.Cond} {P : Jvm.Cond → Bool} (h1 : L.all (fun c => isCode c || P c) = true) (h2 : ∀ c ∈ L.filter isCode, P c = true) : L.all P = true := by
  refine List.all_eq_true.mpr fun c hc => ?_
  have h := List.all_eq_true.mp h1 c hc
  rcases Bool.eq_false_or_eq_true (isCode c) with hi | hi
  · exact h2 c (List.mem_filter.mpr ⟨hc, hi⟩)
  · simpa [hi] using h
set_option maxRecDepth 65536 in
theorem w_c0 : (Jvm.Cond.code x code maxLocals ret).before args0 about1 = true := code_word (m := ⟨1, 1⟩) (meth := k1m1) (c := k1c1) (by decide +kernel) rfl rfl rfl (by decide +kernel)
set_option maxRecDepth 65536 in
theorem w_c1 : (Jvm.Cond.code ({ cls := "com/example/tidemark/tidemark/Expression$Operator", name := "compares", desc := "()Z" } : Jvm.MethodName) prog_22_method_5_code (1 : Nat) (Option.some Jvm.ClassFile.FieldType.boolean)).before args0 about1 = true := code_word (m := ⟨6, 0⟩) (meth := k6m0) (c := k6c0) (by decide +kernel) rfl rfl rfl (by decide +kernel)
def codes1 : List Jvm.Cond := [Jvm.Cond.code x code maxLocals ret, Jvm.Cond.code ({ cls := "com/example/tidemark/tidemark/Expression$Operator", name := "compares", desc := "()Z" } : Jvm.MethodName) prog_22_method_5_code (1 : Nat) (Option.some Jvm.ClassFile.FieldType.boolean)]
set_option maxRecDepth 65536 in
theorem codes_eq : words1.filter isCode = codes1 := rfl
theorem w_codes : ∀ c ∈ words1.filter isCode, c.before args0 about1 = true := by
  rw [codes_eq]
  intro c hc
  simp only [codes1, List.mem_cons, List.not_mem_nil, or_false] at hc
  rcases hc with rfl | rfl
  · exact w_c0
  · exact w_c1
set_option maxRecDepth 65536 in
theorem w_t1 : (words1.take 24).all (fun c => isCode c || c.before args0 about1) = true := by decide +kernel
set_option maxRecDepth 65536 in
theorem w_t2 : (words1.drop 24).all (fun c => isCode c || c.before args0 about1) = true := by decide +kernel
theorem w_tables : (allAtoms (Jvm.Cond.code x code maxLocals ret :: tables_1)).before args0 about1 = true := by
  rw [allAtoms_all]
  show words1.all (fun c => c.before args0 about1) = true
  refine all_split ?_ w_codes
  rw [← List.take_append_drop 24 words1, List.all_append, w_t1, w_t2]
  rfl
set_option maxRecDepth 65536 in
theorem w_case : (Jvm.Cond.and given_1 narrow_1).before args0 about1 = true := by decide +kernel
theorem w_applies : (headSpec (Jvm.Cond.code x code maxLocals ret :: tables_1) room_1).applies x e0.platform about1 = true :=
  (Spec.applies_iff w_frames).mpr ⟨w_running, w_runnable, w_alone, w_named, w_hears, w_ripe, w_room, w_tables⟩
theorem atStart : AtStart classFile x code maxLocals ret World_1 tables_1 room_1 Calls_1 rest_1 Pre_1 launch0 p0 e0 about1 theMethod args0 below0 :=
  ⟨lists_1, trivial, launch0.admits_env _ _ _, launch0.least_env, fairChoices_fair.cas, fairChoices_fair.clock, w_frames, w_args, w_heap, w_applies, trivial, trivial, w_case⟩
end start1
theorem witness_1 : WitnessClaimed_1 := ⟨start1.p0, start1.e0, start1.about1, start1.theMethod, start1.args0, start1.below0, start1.atStart⟩
end Jvm.Pilot.@@N@@
