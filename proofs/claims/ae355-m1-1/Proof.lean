import JvmDerived
import JvmDerived.Pilot.@@N@@Statement
import JvmDerived.Pilot.@@N@@Code
set_option linter.unusedVariables false
set_option linter.unusedSimpArgs false
@@BLOCK:NumsL.lean.txt@@
namespace Jvm.RoadKit
open Sem ClassFile Op Lib Jvm.Stand Jvm.Free Jvm.LawKit
section New
variable {p : Program} {l : Launch} {e : Env} {R : Room} {s : State} {m : MethodId} {args : Array Value} {below : List Frame} {meth : Method} {c : Code} {T : State} {locs : List Loc} {cells slots : Nat}
theorem retI (X : Stand p l e R s m args below meth c T locs cells slots) (hx : p.tables.exec = Jvm.exec) {pc : Nat} {Ls : Array Slot} {z : Int32} {rest : List Value} (hret : meth.sig.returnType = some .int) (hd : decode c.code pc = .ok (.ireturn, 1)) {fs : List Frame}
    (hl : ∀ (f : JFrame) (acts : List Action), f.method = m → f.locked = none → f.entered = [] → (doReturn e (T.setTop f) acts (some (.int z))).1 = T.setFrames fs) : Steps p.tables e below (T.setTop (mkF m pc Ls (.int z :: rest))) (T.setFrames fs) := by
  have hm' : T.vm.method? m = some meth := X.method'
  have hn : narrow .int (.int z) = .int z := rfl
  show Steps p.tables e below (T.setTop { method := m, pc := pc, locals := Ls, stack := _ :: rest, locked := none }) _
  jvm_step X.here [X.here.top, hx, hd, hm', hret, hn]
  first | (intro acts; rw [hl _ acts rfl rfl rfl]) | rw [hl _ _ rfl rfl rfl]
  exact Steps.refl _
theorem retD (X : Stand p l e R s m args below meth c T locs cells slots) (hx : p.tables.exec = Jvm.exec) {pc : Nat} {Ls : Array Slot} {z : UInt64} {rest : List Value} (hret : meth.sig.returnType = some .double) (hd : decode c.code pc = .ok (.dreturn, 1)) {fs : List Frame}
    (hl : ∀ (f : JFrame) (acts : List Action), f.method = m → f.locked = none → f.entered = [] → (doReturn e (T.setTop f) acts (some (.double z))).1 = T.setFrames fs) : Steps p.tables e below (T.setTop (mkF m pc Ls (.double z :: rest))) (T.setFrames fs) := by
  have hm' : T.vm.method? m = some meth := X.method'
  show Steps p.tables e below (T.setTop { method := m, pc := pc, locals := Ls, stack := _ :: rest, locked := none }) _
  jvm_step X.here [X.here.top, hx, hd, hm', hret]
  first | (intro acts; rw [hl _ acts rfl rfl rfl]) | rw [hl _ _ rfl rfl rfl]
  exact Steps.refl _
end New
end Jvm.RoadKit
namespace Jvm.Pilot.@@N@@
open Jvm Jvm.ClassFile Sem Op Lib Jvm.Free Jvm.Stand Jvm.LawKit Jvm.RoadKit Bundle Jvm.Pilot.@@N@@.Jvm.D
theorem jtlt {x y : Int64} (h : x < y) : ifCond.holds .lt (lcmpW x y) = true ∧ ifCond.holds .ge (lcmpW x y) = false ∧ ifCond.holds .gt (lcmpW y x) = true ∧ ifCond.holds .le (lcmpW y x) = false := by
  have h1 : ¬ y < x := by rw [Int64.lt_iff_toInt_lt] at h ⊢; omega
  have h2 : ¬ x = y := by rintro rfl; exact h1 h
  have h3 : ¬ y = x := fun q => h2 q.symm
  simp [ifCond.holds, lcmpW, h, h1, h2, h3]
theorem jflt {x y : Int64} (h : ¬ x < y) : ifCond.holds .lt (lcmpW x y) = false ∧ ifCond.holds .ge (lcmpW x y) = true ∧ ifCond.holds .gt (lcmpW y x) = false ∧ ifCond.holds .le (lcmpW y x) = true := by
  by_cases h2 : x = y
  · subst h2; simp [ifCond.holds, lcmpW, h]
  · have h1 : y < x := by rw [Int64.lt_iff_toInt_lt] at h ⊢; rw [← Int64.toInt_inj] at h2; omega
    have h3 : ¬ y = x := fun q => h2 q.symm
    simp [ifCond.holds, lcmpW, h, h1, h2, h3]
theorem jteq {x y : Int64} (h : x = y) : ifCond.holds .eq (lcmpW x y) = true ∧ ifCond.holds .ne (lcmpW x y) = false := by
  subst h
  have h1 : ¬ x < x := by rw [Int64.lt_iff_toInt_lt]; omega
  simp [ifCond.holds, lcmpW, h1]
theorem jfeq {x y : Int64} (h : ¬ x = y) : ifCond.holds .eq (lcmpW x y) = false ∧ ifCond.holds .ne (lcmpW x y) = true := by
  by_cases h1 : y < x <;> simp [ifCond.holds, lcmpW, h, h1]
theorem own_sta_keep {Z : State} {h h' : Heap} {C n d : String} {v : Value} {ws : List Addr} (F : Sta Z h C n d v) (K : Keep h h' ws) (q : ∀ x ∈ ws, ∃ c : Cell, h[x]? = some c ∧ c.vm.isStatics = false) : Sta Z h' C n d v := by
  obtain ⟨cf, i, k, f, st, cell, h1, h2, h3, h4, h5, h6, h7⟩ := F
  refine ⟨cf, i, k, f, st, cell, h1, h2, h3, h4, K.2.1 st cell h5 (fun hm => ?_), h6, h7⟩
  obtain ⟨c, e1, e2⟩ := q st hm
  rw [h5] at e1; cases e1; rw [h6] at e2; cases e2
theorem own_nostat {Z : State} {h : Heap} {a : Addr} {C : String} (E : Exa Z h a C) : ∃ c : Cell, h[a]? = some c ∧ c.vm.isStatics = false := by
  obtain ⟨cell, k, h1, -, -, h4, -⟩ := E
  exact ⟨cell, h1, h4⟩

theorem own_or {x y : Int32} {k q : Nat} (hx : x.toInt = ((2 ^ k * q : Nat) : Int)) (hy0 : 0 ≤ y.toInt) (hy : y.toInt < ((2 ^ k : Nat) : Int)) (hs : x.toInt + y.toInt < 2 ^ 31) : (x ||| y).toInt = x.toInt + y.toInt := by
  have e1 : x.toInt = x.toBitVec.toInt := rfl
  have e2 : y.toInt = y.toBitVec.toInt := rfl
  have e3 : (x ||| y).toInt = (x.toBitVec ||| y.toBitVec).toInt := rfl
  have n1 : x.toBitVec.toNat = 2 ^ k * q := by
    rw [BitVec.toInt_eq_toNat_cond] at e1
    have := x.toBitVec.isLt
    split at e1 <;> omega
  have n2 : (y.toBitVec.toNat : Int) = y.toInt := by
    rw [BitVec.toInt_eq_toNat_cond] at e2
    have := y.toBitVec.isLt
    split at e2 <;> omega
  have n3 : y.toBitVec.toNat < 2 ^ k := by omega
  have n4 : (x.toBitVec ||| y.toBitVec).toNat = 2 ^ k * q + y.toBitVec.toNat := by
    rw [BitVec.toNat_or, n1, Nat.two_pow_add_eq_or_of_lt n3]
  rw [e3, BitVec.toInt_eq_toNat_cond, n4, if_pos (by omega)]
  omega
theorem own_byte (x : Int32) (h0 : 0 ≤ x.toInt) (h1 : x.toInt ≤ 255) : ((nar .byte (x.toInt8.toInt32)) &&& (255 : Int32)).toInt = x.toInt := by
  have e : nar .byte (x.toInt8.toInt32) = x.toInt8.toInt32.toInt8.toInt32 := rfl
  have m := Jvm.Kit.i32_mask (nar .byte (x.toInt8.toInt32)) (255 : Int32) (k := 8) (by decide) (by decide)
  rw [m, e, Int8.toInt_toInt32, Int32.toInt_toInt8, Int8.toInt_toInt32, Int32.toInt_toInt8, Int.bmod_bmod, Int.bmod_def]
  omega
theorem own_in0 {p : Int32} (h0 : 0 ≤ p.toInt) (h1 : p.toInt ≤ 3) : ¬ (p < 0) ∧ p < (8 : Int32) := by
  simp only [Int32.lt_iff_toInt_lt, Int32.reduceToInt]
  omega
theorem own_in {p i : Int32} (h0 : 0 ≤ p.toInt) (h1 : p.toInt ≤ 3) (i0 : 0 ≤ i.toInt) (i1 : i.toInt ≤ 3) : ¬ ((p + i) < 0) ∧ (p + i) < (8 : Int32) := by
  have e := Jvm.Kit.i32_add (p := p) (q := i) (by omega) (by omega)
  simp only [Int32.lt_iff_toInt_lt, Int32.reduceToInt, e]
  omega
theorem own_cp2 {a c : Int32} : ((((a &&& (31 : Int32)) <<< ((6 : Int32) &&& 31)) ||| (c &&& (63 : Int32)))).toInt = a.toInt % 32 * 64 + c.toInt % 64 := by
  have m1 := Jvm.Kit.i32_mask a (31 : Int32) (k := 5) (by decide) (by decide)
  have m2 := Jvm.Kit.i32_mask c (63 : Int32) (k := 6) (by decide) (by decide)
  have s1 := Jvm.Kit.i32_shl (a &&& (31 : Int32)) ((6 : Int32) &&& 31) (k := 6) (by decide) (by rw [m1]; omega) (by rw [m1]; omega)
  rw [own_or (k := 6) (q := (a.toInt % 32).toNat) (by rw [s1, m1]; omega) (by rw [m2]; omega) (by rw [m2]; omega) (by rw [s1, m1, m2]; omega), s1, m1, m2]
  omega
theorem own_cp3 {a c d : Int32} : (((((a &&& (15 : Int32)) <<< ((12 : Int32) &&& 31)) ||| ((c &&& (63 : Int32)) <<< ((6 : Int32) &&& 31))) ||| (d &&& (63 : Int32)))).toInt = a.toInt % 16 * 4096 + c.toInt % 64 * 64 + d.toInt % 64 := by
  have m1 := Jvm.Kit.i32_mask a (15 : Int32) (k := 4) (by decide) (by decide)
  have m2 := Jvm.Kit.i32_mask c (63 : Int32) (k := 6) (by decide) (by decide)
  have m3 := Jvm.Kit.i32_mask d (63 : Int32) (k := 6) (by decide) (by decide)
  have s1 := Jvm.Kit.i32_shl (a &&& (15 : Int32)) ((12 : Int32) &&& 31) (k := 12) (by decide) (by rw [m1]; omega) (by rw [m1]; omega)
  have s2 := Jvm.Kit.i32_shl (c &&& (63 : Int32)) ((6 : Int32) &&& 31) (k := 6) (by decide) (by rw [m2]; omega) (by rw [m2]; omega)
  have o1 := own_or (x := (a &&& (15 : Int32)) <<< ((12 : Int32) &&& 31)) (y := (c &&& (63 : Int32)) <<< ((6 : Int32) &&& 31)) (k := 12) (q := (a.toInt % 16).toNat) (by rw [s1, m1]; omega) (by rw [s2, m2]; omega) (by rw [s2, m2]; omega) (by rw [s1, s2, m1, m2]; omega)
  rw [s1, s2, m1, m2] at o1
  rw [own_or (k := 6) (q := (a.toInt % 16 * 64 + c.toInt % 64).toNat) (by rw [o1]; omega) (by rw [m3]; omega) (by rw [m3]; omega) (by rw [o1, m3]; omega), o1, m3]
  omega
theorem own_cp4 {a c d f : Int32} : ((((((a &&& (7 : Int32)) <<< ((18 : Int32) &&& 31)) ||| ((c &&& (63 : Int32)) <<< ((12 : Int32) &&& 31))) ||| ((d &&& (63 : Int32)) <<< ((6 : Int32) &&& 31))) ||| (f &&& (63 : Int32)))).toInt = a.toInt % 8 * 262144 + c.toInt % 64 * 4096 + d.toInt % 64 * 64 + f.toInt % 64 := by
  have m1 := Jvm.Kit.i32_mask a (7 : Int32) (k := 3) (by decide) (by decide)
  have m2 := Jvm.Kit.i32_mask c (63 : Int32) (k := 6) (by decide) (by decide)
  have m3 := Jvm.Kit.i32_mask d (63 : Int32) (k := 6) (by decide) (by decide)
  have m4 := Jvm.Kit.i32_mask f (63 : Int32) (k := 6) (by decide) (by decide)
  have s1 := Jvm.Kit.i32_shl (a &&& (7 : Int32)) ((18 : Int32) &&& 31) (k := 18) (by decide) (by rw [m1]; omega) (by rw [m1]; omega)
  have s2 := Jvm.Kit.i32_shl (c &&& (63 : Int32)) ((12 : Int32) &&& 31) (k := 12) (by decide) (by rw [m2]; omega) (by rw [m2]; omega)
  have s3 := Jvm.Kit.i32_shl (d &&& (63 : Int32)) ((6 : Int32) &&& 31) (k := 6) (by decide) (by rw [m3]; omega) (by rw [m3]; omega)
  have o1 := own_or (x := (a &&& (7 : Int32)) <<< ((18 : Int32) &&& 31)) (y := (c &&& (63 : Int32)) <<< ((12 : Int32) &&& 31)) (k := 18) (q := (a.toInt % 8).toNat) (by rw [s1, m1]; omega) (by rw [s2, m2]; omega) (by rw [s2, m2]; omega) (by rw [s1, s2, m1, m2]; omega)
  rw [s1, s2, m1, m2] at o1
  have o2 := own_or (x := ((a &&& (7 : Int32)) <<< ((18 : Int32) &&& 31)) ||| ((c &&& (63 : Int32)) <<< ((12 : Int32) &&& 31))) (y := (d &&& (63 : Int32)) <<< ((6 : Int32) &&& 31)) (k := 12) (q := (a.toInt % 8 * 64 + c.toInt % 64).toNat) (by rw [o1]; omega) (by rw [s3, m3]; omega) (by rw [s3, m3]; omega) (by rw [o1, s3, m3]; omega)
  rw [o1, s3, m3] at o2
  rw [own_or (k := 6) (q := (a.toInt % 8 * 4096 + c.toInt % 64 * 64 + d.toInt % 64).toNat) (by rw [o2]; omega) (by rw [m4]; omega) (by rw [m4]; omega) (by rw [o2, m4]; omega), o2, m4]
  omega
theorem own_msk (x : Int32) : 0 ≤ (x &&& (255 : Int32)).toInt ∧ (x &&& (255 : Int32)).toInt ≤ 255 := by
  have m := Jvm.Kit.i32_mask x (255 : Int32) (k := 8) (by decide) (by decide)
  rw [m]; omega
theorem own_lead (x : Int32) : 194 ≤ ((194 : Int32) + ((x &&& (2147483647 : Int32)) - ((x &&& (2147483647 : Int32)) / (51 : Int32)) * (51 : Int32))).toInt ∧ ((194 : Int32) + ((x &&& (2147483647 : Int32)) - ((x &&& (2147483647 : Int32)) / (51 : Int32)) * (51 : Int32))).toInt ≤ 244 := by
  have mk := Jvm.Kit.i32_mask x (2147483647 : Int32) (k := 31) (by decide) (by decide)
  have nn : 0 ≤ (x &&& (2147483647 : Int32)).toInt := by rw [mk]; omega
  have e1 : (51 : Int32).toInt = 51 := by decide
  have e2 : (194 : Int32).toInt = 194 := by decide
  have r : ((x &&& (2147483647 : Int32)) - ((x &&& (2147483647 : Int32)) / (51 : Int32)) * (51 : Int32)).toInt = (x &&& (2147483647 : Int32)).toInt % 51 := by
    rw [Jvm.LawKit.rem_toInt, Int.tmod_eq_emod_of_nonneg nn, e1]
  rw [Jvm.Kit.i32_add (by rw [e2, r]; omega) (by rw [e2, r]; omega), e2, r]
  omega
theorem own_at {x v : Int32} (h : v = x &&& (3 : Int32)) : v = (0 : Int32) ∨ v = (1 : Int32) ∨ v = (2 : Int32) ∨ v = (3 : Int32) := by
  have m := Jvm.Kit.i32_mask x (3 : Int32) (k := 2) (by decide) (by decide)
  simp only [← Int32.toInt_inj, Int32.reduceToInt, h, m]
  omega

/-! body 2 -/
theorem d2_0 : decode method_3_code 0 = .ok (.iload_n 0, 1) := by decide +kernel
theorem d2_1 : decode method_3_code 1 = .ok (.sipush 128, 3) := by decide +kernel
theorem d2_4 : decode method_3_code 4 = .ok (.if_icmp .lt 14, 3) := by decide +kernel
theorem d2_7 : decode method_3_code 7 = .ok (.iload_n 0, 1) := by decide +kernel
theorem d2_8 : decode method_3_code 8 = .ok (.sipush 191, 3) := by decide +kernel
theorem d2_11 : decode method_3_code 11 = .ok (.if_icmp .gt 7, 3) := by decide +kernel
theorem d2_14 : decode method_3_code 14 = .ok (.iconst 1, 1) := by decide +kernel
theorem d2_15 : decode method_3_code 15 = .ok (.goto 4, 3) := by decide +kernel
theorem d2_18 : decode method_3_code 18 = .ok (.iconst 0, 1) := by decide +kernel
theorem d2_19 : decode method_3_code 19 = .ok (.ireturn, 1) := by decide +kernel
theorem pn_2 : plainName "com/example/partwise/partwise/storage/Utf8ContinuesSequencePinLaw" = true := by first | (simp [plainName, overriddenIn]; done) | decide +kernel
theorem ef_2 (m : MethodId) (p1 : Int32) : entryFrame m #[(.int p1)] 1 = mkF m 0 #[.val (.int p1)] [] := by first | (simp [entryFrame, mkF, argsToLocals, Value.category]; done) | rfl
def Q2 (Z : State) (p1 : Int32) (h0 : Heap) (n0 : Nat) (v : Option Value) (h : Heap) (L : List Loc) : Prop := ∃ r : Int32, v = some (.int r) ∧ Fr n0 L ∧ h = h0 ∧ ((r.toInt = 1 ∧ (128 ≤ p1.toInt ∧ p1.toInt ≤ 191)) ∨ (r.toInt = 0 ∧ ¬ (128 ≤ p1.toInt ∧ p1.toInt ≤ 191)))
set_option maxRecDepth 65536 in
set_option maxHeartbeats 40000000 in
theorem rm2 (l : Launch) (Z : State) (a0 : Array Value) (hw : ∀ d ∈ tables_1, d.before a0 Z = true) (ws : List Jvm.Cond) (p1 : Int32) (h0 : Heap) (n0 : Nat) (Z0 : n0 ≤ h0.size)  :
    MetFree l (⟨"com/example/partwise/partwise/storage/Utf8ContinuesSequencePinLaw", "isCont", "(I)Z"⟩ : MethodName) (head1 (Jvm.Cond.code (⟨"com/example/partwise/partwise/storage/Utf8ContinuesSequencePinLaw", "isCont", "(I)Z"⟩ : MethodName) method_3_code 1 (some .boolean) :: ws) ({ frames := 0, cells := 0, slots := 0, locals := 0 } : Room)) (fun a U => a = #[(.int p1)] ∧ Z.Warmed39 U.vm ∧ U.heap = h0) (fun _ _ _ _ _ => True) (fun _ U o U' => ∃ v L, o = .returned v ∧ Q2 Z p1 h0 n0 v U'.heap L ∧ FrameEnd U o U' L ({ frames := 0, cells := 0, slots := 0, locals := 0 } : Room).cells ({ frames := 0, cells := 0, slots := 0, locals := 0 } : Room).slots) := by
  refine MetFree.of_bodySF (plainFor_of_name pn_2) hisR ?_
  intro p e s m args below meth c s₁ Bd hml0 hP hK
  obtain ⟨rfl, hZ, hh⟩ := hP
  have hx := Bd.exec
  have hby := Bd.bytes
  have hml : c.maxLocals = 1 := hml0
  have hown : s.vm.findClass "com/example/partwise/partwise/storage/Utf8ContinuesSequencePinLaw" = some m.cls := findClass_of_methodNamed Bd.named
  have hnm := (name_of_methodNamed Bd.named Bd.method).1
  have X0 : Stand p l e ({ frames := 0, cells := 0, slots := 0, locals := 0 } : Room) s m #[(.int p1)] below meth c s₁ [] 0 0 := Stand.of_body Bd
  have e0 : s₁.heap = h0 := by rw [← hh, Bd.state]; rfl
  have N0 := Fr.nil n0
  have pre0 : ∀ tq, Steps p.tables e below (s₁.setTop (mkF m 0 #[.val (.int p1)] [])) tq → Steps p.tables e below (s₁.setTop (entryFrame m #[(.int p1)] 1)) tq := fun tq kq => castTop (ef_2 m p1) kq
  have pre1 : ∀ tq, Steps p.tables e below (s₁.setTop (mkF m 4 #[.val (.int p1)] [(.int (128 : Int32)), (.int p1)])) tq → Steps p.tables e below (s₁.setTop (entryFrame m #[(.int p1)] 1)) tq := by
    refine fun tq kq => pre0 tq ?_
    show Steps p.tables e below (s₁.setTop (mkF m 0 #[.val (.int p1)] [])) _
    refine XS.iloadN X0.here hx rfl (hb hby d2_0) rfl ?_
    show Steps p.tables e below (s₁.setTop (mkF m 1 #[.val (.int p1)] [(.int p1)])) _
    refine XS.sipush X0.here hx rfl (hb hby d2_1) ?_
    exact kq
  by_cases hc4 : p1 < (128 : Int32)
  · skip
    have pre2 : ∀ tq, Steps p.tables e below (s₁.setTop (mkF m 18 #[.val (.int p1)] [])) tq → Steps p.tables e below (s₁.setTop (entryFrame m #[(.int p1)] 1)) tq := by
      refine fun tq kq => pre1 tq ?_
      show Steps p.tables e below (s₁.setTop (mkF m 4 #[.val (.int p1)] [(.int (128 : Int32)), (.int p1)])) _
      refine XS.icmpYes X0.here hx rfl (pc0 := 4) (pc' := 18) rfl (hb hby d2_4) rfl (tlt hc4).1 (by decide) (by decide) ?_
      exact kq
    obtain ⟨fs, hr, hrun, hended, hW, hsame⟩ := X0.leave (v := some (.int (0 : Int32))) (fun h => by rw [Bd.returns] at h; cases h)
    refine ⟨_, _, pre2 _ ?_, hrun, hended, _, _, rfl, ?_, ⟨_, rfl⟩, hW, hsame.mono (by decide) (by decide)⟩
    · skip
      show Steps p.tables e below (s₁.setTop (mkF m 18 #[.val (.int p1)] [])) _
      refine XS.iconst X0.here hx rfl (hb hby d2_18) ?_
      show Steps p.tables e below (s₁.setTop (mkF m 19 #[.val (.int p1)] [(.int (0 : Int32))])) _
      exact retN X0 hx (t := .boolean) Bd.returns (by simp) (hb hby d2_19) hr
    · show Q2 Z p1 h0 n0 _ s₁.heap _
      rw [e0]
      refine ⟨(0 : Int32), rfl, N0, rfl, ?_⟩
      simp only [Int32.lt_iff_toInt_lt, ← Int32.toInt_inj, Int32.reduceToInt, true_and, and_true, false_and, and_false, or_false, false_or, not_true_eq_false, not_false_eq_true, true_implies, false_implies] at hc4 ⊢ <;> omega
  · skip
    have pre3 : ∀ tq, Steps p.tables e below (s₁.setTop (mkF m 7 #[.val (.int p1)] [])) tq → Steps p.tables e below (s₁.setTop (entryFrame m #[(.int p1)] 1)) tq := by
      refine fun tq kq => pre1 tq ?_
      show Steps p.tables e below (s₁.setTop (mkF m 4 #[.val (.int p1)] [(.int (128 : Int32)), (.int p1)])) _
      refine XS.icmpNo X0.here hx rfl (hb hby d2_4) rfl (flt hc4).1 ?_
      exact kq
    have pre4 : ∀ tq, Steps p.tables e below (s₁.setTop (mkF m 11 #[.val (.int p1)] [(.int (191 : Int32)), (.int p1)])) tq → Steps p.tables e below (s₁.setTop (entryFrame m #[(.int p1)] 1)) tq := by
      refine fun tq kq => pre3 tq ?_
      show Steps p.tables e below (s₁.setTop (mkF m 7 #[.val (.int p1)] [])) _
      refine XS.iloadN X0.here hx rfl (hb hby d2_7) rfl ?_
      show Steps p.tables e below (s₁.setTop (mkF m 8 #[.val (.int p1)] [(.int p1)])) _
      refine XS.sipush X0.here hx rfl (hb hby d2_8) ?_
      exact kq
    by_cases hc11 : (191 : Int32) < p1
    · skip
      have pre5 : ∀ tq, Steps p.tables e below (s₁.setTop (mkF m 18 #[.val (.int p1)] [])) tq → Steps p.tables e below (s₁.setTop (entryFrame m #[(.int p1)] 1)) tq := by
        refine fun tq kq => pre4 tq ?_
        show Steps p.tables e below (s₁.setTop (mkF m 11 #[.val (.int p1)] [(.int (191 : Int32)), (.int p1)])) _
        refine XS.icmpYes X0.here hx rfl (pc0 := 11) (pc' := 18) rfl (hb hby d2_11) rfl (tlt hc11).2.2.1 (by decide) (by decide) ?_
        exact kq
      obtain ⟨fs, hr, hrun, hended, hW, hsame⟩ := X0.leave (v := some (.int (0 : Int32))) (fun h => by rw [Bd.returns] at h; cases h)
      refine ⟨_, _, pre5 _ ?_, hrun, hended, _, _, rfl, ?_, ⟨_, rfl⟩, hW, hsame.mono (by decide) (by decide)⟩
      · skip
        show Steps p.tables e below (s₁.setTop (mkF m 18 #[.val (.int p1)] [])) _
        refine XS.iconst X0.here hx rfl (hb hby d2_18) ?_
        show Steps p.tables e below (s₁.setTop (mkF m 19 #[.val (.int p1)] [(.int (0 : Int32))])) _
        exact retN X0 hx (t := .boolean) Bd.returns (by simp) (hb hby d2_19) hr
      · show Q2 Z p1 h0 n0 _ s₁.heap _
        rw [e0]
        refine ⟨(0 : Int32), rfl, N0, rfl, ?_⟩
        simp only [Int32.lt_iff_toInt_lt, ← Int32.toInt_inj, Int32.reduceToInt, true_and, and_true, false_and, and_false, or_false, false_or, not_true_eq_false, not_false_eq_true, true_implies, false_implies] at hc4 hc11 ⊢ <;> omega
    · skip
      have pre6 : ∀ tq, Steps p.tables e below (s₁.setTop (mkF m 14 #[.val (.int p1)] [])) tq → Steps p.tables e below (s₁.setTop (entryFrame m #[(.int p1)] 1)) tq := by
        refine fun tq kq => pre4 tq ?_
        show Steps p.tables e below (s₁.setTop (mkF m 11 #[.val (.int p1)] [(.int (191 : Int32)), (.int p1)])) _
        refine XS.icmpNo X0.here hx rfl (hb hby d2_11) rfl (flt hc11).2.2.1 ?_
        exact kq
      obtain ⟨fs, hr, hrun, hended, hW, hsame⟩ := X0.leave (v := some (.int (1 : Int32))) (fun h => by rw [Bd.returns] at h; cases h)
      refine ⟨_, _, pre6 _ ?_, hrun, hended, _, _, rfl, ?_, ⟨_, rfl⟩, hW, hsame.mono (by decide) (by decide)⟩
      · skip
        show Steps p.tables e below (s₁.setTop (mkF m 14 #[.val (.int p1)] [])) _
        refine XS.iconst X0.here hx rfl (hb hby d2_14) ?_
        show Steps p.tables e below (s₁.setTop (mkF m 15 #[.val (.int p1)] [(.int (1 : Int32))])) _
        refine XS.goto X0.here hx rfl (pc0 := 15) (pc' := 19) rfl (hb hby d2_15) (by decide) (by decide) ?_
        show Steps p.tables e below (s₁.setTop (mkF m 19 #[.val (.int p1)] [(.int (1 : Int32))])) _
        exact retN X0 hx (t := .boolean) Bd.returns (by simp) (hb hby d2_19) hr
      · show Q2 Z p1 h0 n0 _ s₁.heap _
        rw [e0]
        refine ⟨(1 : Int32), rfl, N0, rfl, ?_⟩
        simp only [Int32.lt_iff_toInt_lt, ← Int32.toInt_inj, Int32.reduceToInt, true_and, and_true, false_and, and_false, or_false, false_or, not_true_eq_false, not_false_eq_true, true_implies, false_implies] at hc4 hc11 ⊢ <;> omega
/-! body 1 -/
theorem d1_0 : decode method_4_code 0 = .ok (.iload_n 1, 1) := by decide +kernel
theorem d1_1 : decode method_4_code 1 = .ok (.iconst 2, 1) := by decide +kernel
theorem d1_2 : decode method_4_code 2 = .ok (.if_icmp .ne 40, 3) := by decide +kernel
theorem d1_5 : decode method_4_code 5 = .ok (.iload_n 2, 1) := by decide +kernel
theorem d1_6 : decode method_4_code 6 = .ok (.invokestatic 20, 3) := by decide +kernel
theorem d1_9 : decode method_4_code 9 = .ok (.ifCond .ne 5, 3) := by decide +kernel
theorem d1_12 : decode method_4_code 12 = .ok (.iconst 0, 1) := by decide +kernel
theorem d1_13 : decode method_4_code 13 = .ok (.ireturn, 1) := by decide +kernel
theorem d1_14 : decode method_4_code 14 = .ok (.iload_n 0, 1) := by decide +kernel
theorem d1_15 : decode method_4_code 15 = .ok (.bipush 31, 2) := by decide +kernel
theorem d1_17 : decode method_4_code 17 = .ok (.iand, 1) := by decide +kernel
theorem d1_18 : decode method_4_code 18 = .ok (.bipush 6, 2) := by decide +kernel
theorem d1_20 : decode method_4_code 20 = .ok (.ishl, 1) := by decide +kernel
theorem d1_21 : decode method_4_code 21 = .ok (.iload_n 2, 1) := by decide +kernel
theorem d1_22 : decode method_4_code 22 = .ok (.bipush 63, 2) := by decide +kernel
theorem d1_24 : decode method_4_code 24 = .ok (.iand, 1) := by decide +kernel
theorem d1_25 : decode method_4_code 25 = .ok (.ior, 1) := by decide +kernel
theorem d1_26 : decode method_4_code 26 = .ok (.istore 5, 2) := by decide +kernel
theorem d1_28 : decode method_4_code 28 = .ok (.iload 5, 2) := by decide +kernel
theorem d1_30 : decode method_4_code 30 = .ok (.sipush 128, 3) := by decide +kernel
theorem d1_33 : decode method_4_code 33 = .ok (.if_icmp .lt 7, 3) := by decide +kernel
theorem d1_36 : decode method_4_code 36 = .ok (.iconst 1, 1) := by decide +kernel
theorem d1_37 : decode method_4_code 37 = .ok (.goto 4, 3) := by decide +kernel
theorem d1_40 : decode method_4_code 40 = .ok (.iconst 0, 1) := by decide +kernel
theorem d1_41 : decode method_4_code 41 = .ok (.ireturn, 1) := by decide +kernel
theorem d1_42 : decode method_4_code 42 = .ok (.iload_n 1, 1) := by decide +kernel
theorem d1_43 : decode method_4_code 43 = .ok (.iconst 3, 1) := by decide +kernel
theorem d1_44 : decode method_4_code 44 = .ok (.if_icmp .ne 69, 3) := by decide +kernel
theorem d1_47 : decode method_4_code 47 = .ok (.iload_n 2, 1) := by decide +kernel
theorem d1_48 : decode method_4_code 48 = .ok (.invokestatic 20, 3) := by decide +kernel
theorem d1_51 : decode method_4_code 51 = .ok (.ifCond .eq 10, 3) := by decide +kernel
theorem d1_54 : decode method_4_code 54 = .ok (.iload_n 3, 1) := by decide +kernel
theorem d1_55 : decode method_4_code 55 = .ok (.invokestatic 20, 3) := by decide +kernel
theorem d1_58 : decode method_4_code 58 = .ok (.ifCond .ne 5, 3) := by decide +kernel
theorem d1_61 : decode method_4_code 61 = .ok (.iconst 0, 1) := by decide +kernel
theorem d1_62 : decode method_4_code 62 = .ok (.ireturn, 1) := by decide +kernel
theorem d1_63 : decode method_4_code 63 = .ok (.iload_n 0, 1) := by decide +kernel
theorem d1_64 : decode method_4_code 64 = .ok (.bipush 15, 2) := by decide +kernel
theorem d1_66 : decode method_4_code 66 = .ok (.iand, 1) := by decide +kernel
theorem d1_67 : decode method_4_code 67 = .ok (.bipush 12, 2) := by decide +kernel
theorem d1_69 : decode method_4_code 69 = .ok (.ishl, 1) := by decide +kernel
theorem d1_70 : decode method_4_code 70 = .ok (.iload_n 2, 1) := by decide +kernel
theorem d1_71 : decode method_4_code 71 = .ok (.bipush 63, 2) := by decide +kernel
theorem d1_73 : decode method_4_code 73 = .ok (.iand, 1) := by decide +kernel
theorem d1_74 : decode method_4_code 74 = .ok (.bipush 6, 2) := by decide +kernel
theorem d1_76 : decode method_4_code 76 = .ok (.ishl, 1) := by decide +kernel
theorem d1_77 : decode method_4_code 77 = .ok (.ior, 1) := by decide +kernel
theorem d1_78 : decode method_4_code 78 = .ok (.iload_n 3, 1) := by decide +kernel
theorem d1_79 : decode method_4_code 79 = .ok (.bipush 63, 2) := by decide +kernel
theorem d1_81 : decode method_4_code 81 = .ok (.iand, 1) := by decide +kernel
theorem d1_82 : decode method_4_code 82 = .ok (.ior, 1) := by decide +kernel
theorem d1_83 : decode method_4_code 83 = .ok (.istore 5, 2) := by decide +kernel
theorem d1_85 : decode method_4_code 85 = .ok (.iload 5, 2) := by decide +kernel
theorem d1_87 : decode method_4_code 87 = .ok (.sipush 2048, 3) := by decide +kernel
theorem d1_90 : decode method_4_code 90 = .ok (.if_icmp .lt 21, 3) := by decide +kernel
theorem d1_93 : decode method_4_code 93 = .ok (.iload 5, 2) := by decide +kernel
theorem d1_95 : decode method_4_code 95 = .ok (.ldc 24, 2) := by decide +kernel
theorem d1_97 : decode method_4_code 97 = .ok (.if_icmp .lt 10, 3) := by decide +kernel
theorem d1_100 : decode method_4_code 100 = .ok (.iload 5, 2) := by decide +kernel
theorem d1_102 : decode method_4_code 102 = .ok (.ldc 25, 2) := by decide +kernel
theorem d1_104 : decode method_4_code 104 = .ok (.if_icmp .le 7, 3) := by decide +kernel
theorem d1_107 : decode method_4_code 107 = .ok (.iconst 1, 1) := by decide +kernel
theorem d1_108 : decode method_4_code 108 = .ok (.goto 4, 3) := by decide +kernel
theorem d1_111 : decode method_4_code 111 = .ok (.iconst 0, 1) := by decide +kernel
theorem d1_112 : decode method_4_code 112 = .ok (.ireturn, 1) := by decide +kernel
theorem d1_113 : decode method_4_code 113 = .ok (.iload_n 2, 1) := by decide +kernel
theorem d1_114 : decode method_4_code 114 = .ok (.invokestatic 20, 3) := by decide +kernel
theorem d1_117 : decode method_4_code 117 = .ok (.ifCond .eq 18, 3) := by decide +kernel
theorem d1_120 : decode method_4_code 120 = .ok (.iload_n 3, 1) := by decide +kernel
theorem d1_121 : decode method_4_code 121 = .ok (.invokestatic 20, 3) := by decide +kernel
theorem d1_124 : decode method_4_code 124 = .ok (.ifCond .eq 11, 3) := by decide +kernel
theorem d1_127 : decode method_4_code 127 = .ok (.iload 4, 2) := by decide +kernel
theorem d1_129 : decode method_4_code 129 = .ok (.invokestatic 20, 3) := by decide +kernel
theorem d1_132 : decode method_4_code 132 = .ok (.ifCond .ne 5, 3) := by decide +kernel
theorem d1_135 : decode method_4_code 135 = .ok (.iconst 0, 1) := by decide +kernel
theorem d1_136 : decode method_4_code 136 = .ok (.ireturn, 1) := by decide +kernel
theorem d1_137 : decode method_4_code 137 = .ok (.iload_n 0, 1) := by decide +kernel
theorem d1_138 : decode method_4_code 138 = .ok (.bipush 7, 2) := by decide +kernel
theorem d1_140 : decode method_4_code 140 = .ok (.iand, 1) := by decide +kernel
theorem d1_141 : decode method_4_code 141 = .ok (.bipush 18, 2) := by decide +kernel
theorem d1_143 : decode method_4_code 143 = .ok (.ishl, 1) := by decide +kernel
theorem d1_144 : decode method_4_code 144 = .ok (.iload_n 2, 1) := by decide +kernel
theorem d1_145 : decode method_4_code 145 = .ok (.bipush 63, 2) := by decide +kernel
theorem d1_147 : decode method_4_code 147 = .ok (.iand, 1) := by decide +kernel
theorem d1_148 : decode method_4_code 148 = .ok (.bipush 12, 2) := by decide +kernel
theorem d1_150 : decode method_4_code 150 = .ok (.ishl, 1) := by decide +kernel
theorem d1_151 : decode method_4_code 151 = .ok (.ior, 1) := by decide +kernel
theorem d1_152 : decode method_4_code 152 = .ok (.iload_n 3, 1) := by decide +kernel
theorem d1_153 : decode method_4_code 153 = .ok (.bipush 63, 2) := by decide +kernel
theorem d1_155 : decode method_4_code 155 = .ok (.iand, 1) := by decide +kernel
theorem d1_156 : decode method_4_code 156 = .ok (.bipush 6, 2) := by decide +kernel
theorem d1_158 : decode method_4_code 158 = .ok (.ishl, 1) := by decide +kernel
theorem d1_159 : decode method_4_code 159 = .ok (.ior, 1) := by decide +kernel
theorem d1_160 : decode method_4_code 160 = .ok (.iload 4, 2) := by decide +kernel
theorem d1_162 : decode method_4_code 162 = .ok (.bipush 63, 2) := by decide +kernel
theorem d1_164 : decode method_4_code 164 = .ok (.iand, 1) := by decide +kernel
theorem d1_165 : decode method_4_code 165 = .ok (.ior, 1) := by decide +kernel
theorem d1_166 : decode method_4_code 166 = .ok (.istore 5, 2) := by decide +kernel
theorem d1_168 : decode method_4_code 168 = .ok (.iload 5, 2) := by decide +kernel
theorem d1_170 : decode method_4_code 170 = .ok (.ldc 26, 2) := by decide +kernel
theorem d1_172 : decode method_4_code 172 = .ok (.if_icmp .lt 14, 3) := by decide +kernel
theorem d1_175 : decode method_4_code 175 = .ok (.iload 5, 2) := by decide +kernel
theorem d1_177 : decode method_4_code 177 = .ok (.ldc 27, 2) := by decide +kernel
theorem d1_179 : decode method_4_code 179 = .ok (.if_icmp .gt 7, 3) := by decide +kernel
theorem d1_182 : decode method_4_code 182 = .ok (.iconst 1, 1) := by decide +kernel
theorem d1_183 : decode method_4_code 183 = .ok (.goto 4, 3) := by decide +kernel
theorem d1_186 : decode method_4_code 186 = .ok (.iconst 0, 1) := by decide +kernel
theorem d1_187 : decode method_4_code 187 = .ok (.ireturn, 1) := by decide +kernel
theorem pn_1 : plainName "com/example/partwise/partwise/storage/Utf8ContinuesSequencePinLaw" = true := by first | (simp [plainName, overriddenIn]; done) | decide +kernel
theorem pd1_0 : parseMethodDescriptor "(I)Z" = some ⟨[.int], some .boolean⟩ := by decide +kernel
theorem ef_1 (m : MethodId) (p1 : Int32) (p2 : Int32) (p3 : Int32) (p4 : Int32) (p5 : Int32) : entryFrame m #[(.int p1), (.int p2), (.int p3), (.int p4), (.int p5)] 6 = mkF m 0 #[.val (.int p1), .val (.int p2), .val (.int p3), .val (.int p4), .val (.int p5), .unset] [] := by first | (simp [entryFrame, mkF, argsToLocals, Value.category]; done) | rfl
def Q1 (Z : State) (p1 : Int32) (p2 : Int32) (p3 : Int32) (p4 : Int32) (p5 : Int32) (h0 : Heap) (n0 : Nat) (v : Option Value) (h : Heap) (L : List Loc) : Prop := ∃ r : Int32, v = some (.int r) ∧ Fr n0 L ∧ h = h0 ∧ ((r.toInt = 1 ∧ (128 ≤ p3.toInt ∧ p3.toInt ≤ 191 ∧ (3 ≤ p2.toInt → 128 ≤ p4.toInt ∧ p4.toInt ≤ 191) ∧ (p2.toInt = 4 → 128 ≤ p5.toInt ∧ p5.toInt ≤ 191) ∧ (p1.toInt = 224 → 160 ≤ p3.toInt) ∧ (p1.toInt = 237 → p3.toInt ≤ 159) ∧ (p1.toInt = 240 → 144 ≤ p3.toInt) ∧ (p1.toInt = 244 → p3.toInt ≤ 143))) ∨ (r.toInt = 0 ∧ ¬ (128 ≤ p3.toInt ∧ p3.toInt ≤ 191 ∧ (3 ≤ p2.toInt → 128 ≤ p4.toInt ∧ p4.toInt ≤ 191) ∧ (p2.toInt = 4 → 128 ≤ p5.toInt ∧ p5.toInt ≤ 191) ∧ (p1.toInt = 224 → 160 ≤ p3.toInt) ∧ (p1.toInt = 237 → p3.toInt ≤ 159) ∧ (p1.toInt = 240 → 144 ≤ p3.toInt) ∧ (p1.toInt = 244 → p3.toInt ≤ 143))))
set_option maxRecDepth 65536 in
set_option maxHeartbeats 40000000 in
theorem rm1 (l : Launch) (Z : State) (a0 : Array Value) (hw : ∀ d ∈ tables_1, d.before a0 Z = true) (ws : List Jvm.Cond) (p1 : Int32) (p2 : Int32) (p3 : Int32) (p4 : Int32) (p5 : Int32) (h0 : Heap) (n0 : Nat) (Z0 : n0 ≤ h0.size) (hl : (p2 = (2 : Int32) ∧ 194 ≤ p1.toInt ∧ p1.toInt ≤ 223) ∨ (p2 = (3 : Int32) ∧ 224 ≤ p1.toInt ∧ p1.toInt ≤ 239) ∨ (p2 = (4 : Int32) ∧ 240 ≤ p1.toInt ∧ p1.toInt ≤ 244)) (hbs : (0 ≤ p3.toInt ∧ p3.toInt ≤ 255) ∧ (0 ≤ p4.toInt ∧ p4.toInt ≤ 255) ∧ (0 ≤ p5.toInt ∧ p5.toInt ≤ 255)) :
    MetFree l (⟨"com/example/partwise/partwise/storage/Utf8ContinuesSequencePinLaw", "expected", "(IIIII)Z"⟩ : MethodName) (head1 (Jvm.Cond.code (⟨"com/example/partwise/partwise/storage/Utf8ContinuesSequencePinLaw", "expected", "(IIIII)Z"⟩ : MethodName) method_4_code 6 (some .boolean) :: ws) ({ frames := 1, cells := 0, slots := 0, locals := 12 } : Room)) (fun a U => a = #[(.int p1), (.int p2), (.int p3), (.int p4), (.int p5)] ∧ Z.Warmed39 U.vm ∧ U.heap = h0) (fun _ _ _ _ _ => True) (fun _ U o U' => ∃ v L, o = .returned v ∧ Q1 Z p1 p2 p3 p4 p5 h0 n0 v U'.heap L ∧ FrameEnd U o U' L ({ frames := 1, cells := 0, slots := 0, locals := 12 } : Room).cells ({ frames := 1, cells := 0, slots := 0, locals := 12 } : Room).slots) := by
  refine MetFree.of_bodySF (plainFor_of_name pn_1) hisR ?_
  intro p e s m args below meth c s₁ Bd hml0 hP hK
  obtain ⟨rfl, hZ, hh⟩ := hP
  have hx := Bd.exec
  have hby := Bd.bytes
  have hml : c.maxLocals = 6 := hml0
  have hown : s.vm.findClass "com/example/partwise/partwise/storage/Utf8ContinuesSequencePinLaw" = some m.cls := findClass_of_methodNamed Bd.named
  have hnm := (name_of_methodNamed Bd.named Bd.method).1
  have X0 : Stand p l e ({ frames := 1, cells := 0, slots := 0, locals := 12 } : Room) s m #[(.int p1), (.int p2), (.int p3), (.int p4), (.int p5)] below meth c s₁ [] 0 0 := Stand.of_body Bd
  have e0 : s₁.heap = h0 := by rw [← hh, Bd.state]; rfl
  have N0 := Fr.nil n0
  have pre0 : ∀ tq, Steps p.tables e below (s₁.setTop (mkF m 0 #[.val (.int p1), .val (.int p2), .val (.int p3), .val (.int p4), .val (.int p5), .unset] [])) tq → Steps p.tables e below (s₁.setTop (entryFrame m #[(.int p1), (.int p2), (.int p3), (.int p4), (.int p5)] 6)) tq := fun tq kq => castTop (ef_1 m p1 p2 p3 p4 p5) kq
  have pre1 : ∀ tq, Steps p.tables e below (s₁.setTop (mkF m 2 #[.val (.int p1), .val (.int p2), .val (.int p3), .val (.int p4), .val (.int p5), .unset] [(.int (2 : Int32)), (.int p2)])) tq → Steps p.tables e below (s₁.setTop (entryFrame m #[(.int p1), (.int p2), (.int p3), (.int p4), (.int p5)] 6)) tq := by
    refine fun tq kq => pre0 tq ?_
    show Steps p.tables e below (s₁.setTop (mkF m 0 #[.val (.int p1), .val (.int p2), .val (.int p3), .val (.int p4), .val (.int p5), .unset] [])) _
    refine XS.iloadN X0.here hx rfl (hb hby d1_0) rfl ?_
    show Steps p.tables e below (s₁.setTop (mkF m 1 #[.val (.int p1), .val (.int p2), .val (.int p3), .val (.int p4), .val (.int p5), .unset] [(.int p2)])) _
    refine XS.iconst X0.here hx rfl (hb hby d1_1) ?_
    exact kq
  by_cases hc2 : p2 = (2 : Int32)
  · skip
    have pre2 : ∀ tq, Steps p.tables e below (s₁.setTop (mkF m 5 #[.val (.int p1), .val (.int p2), .val (.int p3), .val (.int p4), .val (.int p5), .unset] [])) tq → Steps p.tables e below (s₁.setTop (entryFrame m #[(.int p1), (.int p2), (.int p3), (.int p4), (.int p5)] 6)) tq := by
      refine fun tq kq => pre1 tq ?_
      show Steps p.tables e below (s₁.setTop (mkF m 2 #[.val (.int p1), .val (.int p2), .val (.int p3), .val (.int p4), .val (.int p5), .unset] [(.int (2 : Int32)), (.int p2)])) _
      refine XS.icmpNo X0.here hx rfl (hb hby d1_2) rfl (teq hc2).2 ?_
      exact kq
    have pre3 : ∀ tq, Steps p.tables e below (s₁.setTop (mkF m 6 #[.val (.int p1), .val (.int p2), .val (.int p3), .val (.int p4), .val (.int p5), .unset] [(.int p3)])) tq → Steps p.tables e below (s₁.setTop (entryFrame m #[(.int p1), (.int p2), (.int p3), (.int p4), (.int p5)] 6)) tq := by
      refine fun tq kq => pre2 tq ?_
      show Steps p.tables e below (s₁.setTop (mkF m 5 #[.val (.int p1), .val (.int p2), .val (.int p3), .val (.int p4), .val (.int p5), .unset] [])) _
      refine XS.iloadN X0.here hx rfl (hb hby d1_5) rfl ?_
      exact kq
    have Z4 : n0 ≤ h0.size := Z0
    obtain ⟨_, _, ⟨T4, L4, k4, n4⟩, -, X4, ⟨Lc4, hQ4, l4, y4, z4⟩, st4⟩ := Jvm.LawKit.callS X0 hx (y := (⟨"com/example/partwise/partwise/storage/Utf8ContinuesSequencePinLaw", "isCont", "(I)Z"⟩ : MethodName)) hown (mvT hZ (hw _ (List.mem_of_getElem? (i := 6) rfl))) (mvT hZ (hw _ (List.mem_of_getElem? (i := 7) rfl))) (mvT hZ (hw _ (List.mem_of_getElem? (i := 4) rfl))) (mvT hZ (hw _ (List.mem_of_getElem? (i := 8) rfl))) (by decide) (backOf (W := 0) (rm2 l Z a0 hw [] p3  h0 n0 Z4 ) hZ (hw _ (List.mem_of_getElem? (i := 8) rfl)) (hw _ (List.mem_of_getElem? (i := 4) rfl)) (by decide) (by decide)) (g := (mkF m 6 #[.val (.int p1), .val (.int p2), .val (.int p3), .val (.int p4), .val (.int p5), .unset] [(.int p3)])) rfl (by rw [hml]; rfl) (argsL := [(.int p3)]) (rest := []) (lenOf pd1_0 rfl) rfl (by show 2 * 0 + _ ≤ _; exact Nat.le_of_eq rfl) (hb hby d1_6) (fun _ _ => ⟨rfl, e0, (by decide : 0 + 0 ≤ _), (by decide : 0 + 0 ≤ _)⟩)
    dsimp only [Pt.U, Pt.locs, Pt.cells, Pt.slots] at X4 l4 y4 z4 st4 hQ4
    subst l4 y4 z4
    obtain ⟨r5, rfl, Nq4, ehq4, hq4⟩ := hQ4
    have N4 := Fr.app N0 Nq4
    have pre6 : ∀ tq, Steps p.tables e below (T4.setTop (mkF m 9 #[.val (.int p1), .val (.int p2), .val (.int p3), .val (.int p4), .val (.int p5), .unset] [(.int r5)])) tq → Steps p.tables e below (s₁.setTop (entryFrame m #[(.int p1), (.int p2), (.int p3), (.int p4), (.int p5)] 6)) tq := fun tq kq => pre3 tq (st4 _ kq)
    by_cases hc9 : r5 = (0 : Int32)
    · skip
      have pre7 : ∀ tq, Steps p.tables e below (T4.setTop (mkF m 12 #[.val (.int p1), .val (.int p2), .val (.int p3), .val (.int p4), .val (.int p5), .unset] [])) tq → Steps p.tables e below (s₁.setTop (entryFrame m #[(.int p1), (.int p2), (.int p3), (.int p4), (.int p5)] 6)) tq := by
        refine fun tq kq => pre6 tq ?_
        show Steps p.tables e below (T4.setTop (mkF m 9 #[.val (.int p1), .val (.int p2), .val (.int p3), .val (.int p4), .val (.int p5), .unset] [(.int r5)])) _
        refine XS.ifNo X4.here hx rfl (hb hby d1_9) rfl ((if0 _ _).trans (teq hc9).2) ?_
        exact kq
      obtain ⟨fs, hr, hrun, hended, hW, hsame⟩ := X4.leave (v := some (.int (0 : Int32))) (fun h => by rw [Bd.returns] at h; cases h)
      refine ⟨_, _, pre7 _ ?_, hrun, hended, _, _, rfl, ?_, ⟨_, rfl⟩, hW, hsame.mono (by decide) (by decide)⟩
      · skip
        show Steps p.tables e below (T4.setTop (mkF m 12 #[.val (.int p1), .val (.int p2), .val (.int p3), .val (.int p4), .val (.int p5), .unset] [])) _
        refine XS.iconst X4.here hx rfl (hb hby d1_12) ?_
        show Steps p.tables e below (T4.setTop (mkF m 13 #[.val (.int p1), .val (.int p2), .val (.int p3), .val (.int p4), .val (.int p5), .unset] [(.int (0 : Int32))])) _
        exact retN X4 hx (t := .boolean) Bd.returns (by simp) (hb hby d1_13) hr
      · show Q1 Z p1 p2 p3 p4 p5 h0 n0 _ T4.heap _
        rw [ehq4]
        refine ⟨(0 : Int32), rfl, N4, rfl, ?_⟩
        simp only [Int32.lt_iff_toInt_lt, ← Int32.toInt_inj, Int32.reduceToInt, true_and, and_true, false_and, and_false, or_false, false_or, not_true_eq_false, not_false_eq_true, true_implies, false_implies] at hl hbs hc2 hq4 hc9 ⊢ <;> omega
    · skip
      have pre8 : ∀ tq, Steps p.tables e below (T4.setTop (mkF m 14 #[.val (.int p1), .val (.int p2), .val (.int p3), .val (.int p4), .val (.int p5), .unset] [])) tq → Steps p.tables e below (s₁.setTop (entryFrame m #[(.int p1), (.int p2), (.int p3), (.int p4), (.int p5)] 6)) tq := by
        refine fun tq kq => pre6 tq ?_
        show Steps p.tables e below (T4.setTop (mkF m 9 #[.val (.int p1), .val (.int p2), .val (.int p3), .val (.int p4), .val (.int p5), .unset] [(.int r5)])) _
        refine XS.ifYes X4.here hx rfl (pc0 := 9) (pc' := 14) rfl (hb hby d1_9) rfl ((if0 _ _).trans (feq hc9).2) (by decide) (by decide) ?_
        exact kq
      obtain ⟨v10, hv_v10, pre9⟩ : ∃ v10 : Int32, v10 = (((p1 &&& (31 : Int32)) <<< ((6 : Int32) &&& 31)) ||| (p3 &&& (63 : Int32))) ∧ (∀ tq, Steps p.tables e below (T4.setTop (mkF m 28 #[.val (.int p1), .val (.int p2), .val (.int p3), .val (.int p4), .val (.int p5), .val (.int v10)] [])) tq → Steps p.tables e below (s₁.setTop (entryFrame m #[(.int p1), (.int p2), (.int p3), (.int p4), (.int p5)] 6)) tq) := by
        refine ⟨_, rfl, fun tq kq => pre8 tq ?_⟩
        show Steps p.tables e below (T4.setTop (mkF m 14 #[.val (.int p1), .val (.int p2), .val (.int p3), .val (.int p4), .val (.int p5), .unset] [])) _
        refine XS.iloadN X4.here hx rfl (hb hby d1_14) rfl ?_
        show Steps p.tables e below (T4.setTop (mkF m 15 #[.val (.int p1), .val (.int p2), .val (.int p3), .val (.int p4), .val (.int p5), .unset] [(.int p1)])) _
        refine XS.bipush X4.here hx rfl (hb hby d1_15) ?_
        show Steps p.tables e below (T4.setTop (mkF m 17 #[.val (.int p1), .val (.int p2), .val (.int p3), .val (.int p4), .val (.int p5), .unset] [(.int (31 : Int32)), (.int p1)])) _
        refine XS.iand X4.here hx rfl (hb hby d1_17) rfl ?_
        show Steps p.tables e below (T4.setTop (mkF m 18 #[.val (.int p1), .val (.int p2), .val (.int p3), .val (.int p4), .val (.int p5), .unset] [(.int (p1 &&& (31 : Int32)))])) _
        refine XS.bipush X4.here hx rfl (hb hby d1_18) ?_
        show Steps p.tables e below (T4.setTop (mkF m 20 #[.val (.int p1), .val (.int p2), .val (.int p3), .val (.int p4), .val (.int p5), .unset] [(.int (6 : Int32)), (.int (p1 &&& (31 : Int32)))])) _
        refine XS.ishl X4.here hx rfl (hb hby d1_20) rfl ?_
        show Steps p.tables e below (T4.setTop (mkF m 21 #[.val (.int p1), .val (.int p2), .val (.int p3), .val (.int p4), .val (.int p5), .unset] [(.int ((p1 &&& (31 : Int32)) <<< ((6 : Int32) &&& 31)))])) _
        refine XS.iloadN X4.here hx rfl (hb hby d1_21) rfl ?_
        show Steps p.tables e below (T4.setTop (mkF m 22 #[.val (.int p1), .val (.int p2), .val (.int p3), .val (.int p4), .val (.int p5), .unset] [(.int p3), (.int ((p1 &&& (31 : Int32)) <<< ((6 : Int32) &&& 31)))])) _
        refine XS.bipush X4.here hx rfl (hb hby d1_22) ?_
        show Steps p.tables e below (T4.setTop (mkF m 24 #[.val (.int p1), .val (.int p2), .val (.int p3), .val (.int p4), .val (.int p5), .unset] [(.int (63 : Int32)), (.int p3), (.int ((p1 &&& (31 : Int32)) <<< ((6 : Int32) &&& 31)))])) _
        refine XS.iand X4.here hx rfl (hb hby d1_24) rfl ?_
        show Steps p.tables e below (T4.setTop (mkF m 25 #[.val (.int p1), .val (.int p2), .val (.int p3), .val (.int p4), .val (.int p5), .unset] [(.int (p3 &&& (63 : Int32))), (.int ((p1 &&& (31 : Int32)) <<< ((6 : Int32) &&& 31)))])) _
        refine XS.ior X4.here hx rfl (hb hby d1_25) rfl ?_
        show Steps p.tables e below (T4.setTop (mkF m 26 #[.val (.int p1), .val (.int p2), .val (.int p3), .val (.int p4), .val (.int p5), .unset] [(.int (((p1 &&& (31 : Int32)) <<< ((6 : Int32) &&& 31)) ||| (p3 &&& (63 : Int32))))])) _
        refine XS.istore X4.here hx rfl (hb hby d1_26) rfl (l' := #[.val (.int p1), .val (.int p2), .val (.int p3), .val (.int p4), .val (.int p5), .val (.int (((p1 &&& (31 : Int32)) <<< ((6 : Int32) &&& 31)) ||| (p3 &&& (63 : Int32))))]) rfl ?_
        exact kq
      have hcp := own_cp2 (a := p1) (c := p3)
      rw [← hv_v10] at hcp
      have pre11 : ∀ tq, Steps p.tables e below (T4.setTop (mkF m 33 #[.val (.int p1), .val (.int p2), .val (.int p3), .val (.int p4), .val (.int p5), .val (.int v10)] [(.int (128 : Int32)), (.int v10)])) tq → Steps p.tables e below (s₁.setTop (entryFrame m #[(.int p1), (.int p2), (.int p3), (.int p4), (.int p5)] 6)) tq := by
        refine fun tq kq => pre9 tq ?_
        show Steps p.tables e below (T4.setTop (mkF m 28 #[.val (.int p1), .val (.int p2), .val (.int p3), .val (.int p4), .val (.int p5), .val (.int v10)] [])) _
        refine XS.iload X4.here hx rfl (hb hby d1_28) rfl ?_
        show Steps p.tables e below (T4.setTop (mkF m 30 #[.val (.int p1), .val (.int p2), .val (.int p3), .val (.int p4), .val (.int p5), .val (.int v10)] [(.int v10)])) _
        refine XS.sipush X4.here hx rfl (hb hby d1_30) ?_
        exact kq
      by_cases hc33 : v10 < (128 : Int32)
      · skip
        have pre12 : ∀ tq, Steps p.tables e below (T4.setTop (mkF m 40 #[.val (.int p1), .val (.int p2), .val (.int p3), .val (.int p4), .val (.int p5), .val (.int v10)] [])) tq → Steps p.tables e below (s₁.setTop (entryFrame m #[(.int p1), (.int p2), (.int p3), (.int p4), (.int p5)] 6)) tq := by
          refine fun tq kq => pre11 tq ?_
          show Steps p.tables e below (T4.setTop (mkF m 33 #[.val (.int p1), .val (.int p2), .val (.int p3), .val (.int p4), .val (.int p5), .val (.int v10)] [(.int (128 : Int32)), (.int v10)])) _
          refine XS.icmpYes X4.here hx rfl (pc0 := 33) (pc' := 40) rfl (hb hby d1_33) rfl (tlt hc33).1 (by decide) (by decide) ?_
          exact kq
        obtain ⟨fs, hr, hrun, hended, hW, hsame⟩ := X4.leave (v := some (.int (0 : Int32))) (fun h => by rw [Bd.returns] at h; cases h)
        refine ⟨_, _, pre12 _ ?_, hrun, hended, _, _, rfl, ?_, ⟨_, rfl⟩, hW, hsame.mono (by decide) (by decide)⟩
        · skip
          show Steps p.tables e below (T4.setTop (mkF m 40 #[.val (.int p1), .val (.int p2), .val (.int p3), .val (.int p4), .val (.int p5), .val (.int v10)] [])) _
          refine XS.iconst X4.here hx rfl (hb hby d1_40) ?_
          show Steps p.tables e below (T4.setTop (mkF m 41 #[.val (.int p1), .val (.int p2), .val (.int p3), .val (.int p4), .val (.int p5), .val (.int v10)] [(.int (0 : Int32))])) _
          exact retN X4 hx (t := .boolean) Bd.returns (by simp) (hb hby d1_41) hr
        · show Q1 Z p1 p2 p3 p4 p5 h0 n0 _ T4.heap _
          rw [ehq4]
          refine ⟨(0 : Int32), rfl, N4, rfl, ?_⟩
          simp only [Int32.lt_iff_toInt_lt, ← Int32.toInt_inj, Int32.reduceToInt, true_and, and_true, false_and, and_false, or_false, false_or, not_true_eq_false, not_false_eq_true, true_implies, false_implies] at hl hbs hc2 hq4 hc9 hv_v10 hc33 ⊢ <;> omega
      · skip
        have pre13 : ∀ tq, Steps p.tables e below (T4.setTop (mkF m 36 #[.val (.int p1), .val (.int p2), .val (.int p3), .val (.int p4), .val (.int p5), .val (.int v10)] [])) tq → Steps p.tables e below (s₁.setTop (entryFrame m #[(.int p1), (.int p2), (.int p3), (.int p4), (.int p5)] 6)) tq := by
          refine fun tq kq => pre11 tq ?_
          show Steps p.tables e below (T4.setTop (mkF m 33 #[.val (.int p1), .val (.int p2), .val (.int p3), .val (.int p4), .val (.int p5), .val (.int v10)] [(.int (128 : Int32)), (.int v10)])) _
          refine XS.icmpNo X4.here hx rfl (hb hby d1_33) rfl (flt hc33).1 ?_
          exact kq
        obtain ⟨fs, hr, hrun, hended, hW, hsame⟩ := X4.leave (v := some (.int (1 : Int32))) (fun h => by rw [Bd.returns] at h; cases h)
        refine ⟨_, _, pre13 _ ?_, hrun, hended, _, _, rfl, ?_, ⟨_, rfl⟩, hW, hsame.mono (by decide) (by decide)⟩
        · skip
          show Steps p.tables e below (T4.setTop (mkF m 36 #[.val (.int p1), .val (.int p2), .val (.int p3), .val (.int p4), .val (.int p5), .val (.int v10)] [])) _
          refine XS.iconst X4.here hx rfl (hb hby d1_36) ?_
          show Steps p.tables e below (T4.setTop (mkF m 37 #[.val (.int p1), .val (.int p2), .val (.int p3), .val (.int p4), .val (.int p5), .val (.int v10)] [(.int (1 : Int32))])) _
          refine XS.goto X4.here hx rfl (pc0 := 37) (pc' := 41) rfl (hb hby d1_37) (by decide) (by decide) ?_
          show Steps p.tables e below (T4.setTop (mkF m 41 #[.val (.int p1), .val (.int p2), .val (.int p3), .val (.int p4), .val (.int p5), .val (.int v10)] [(.int (1 : Int32))])) _
          exact retN X4 hx (t := .boolean) Bd.returns (by simp) (hb hby d1_41) hr
        · show Q1 Z p1 p2 p3 p4 p5 h0 n0 _ T4.heap _
          rw [ehq4]
          refine ⟨(1 : Int32), rfl, N4, rfl, ?_⟩
          simp only [Int32.lt_iff_toInt_lt, ← Int32.toInt_inj, Int32.reduceToInt, true_and, and_true, false_and, and_false, or_false, false_or, not_true_eq_false, not_false_eq_true, true_implies, false_implies] at hl hbs hc2 hq4 hc9 hv_v10 hc33 ⊢ <;> omega
  · skip
    have pre14 : ∀ tq, Steps p.tables e below (s₁.setTop (mkF m 42 #[.val (.int p1), .val (.int p2), .val (.int p3), .val (.int p4), .val (.int p5), .unset] [])) tq → Steps p.tables e below (s₁.setTop (entryFrame m #[(.int p1), (.int p2), (.int p3), (.int p4), (.int p5)] 6)) tq := by
      refine fun tq kq => pre1 tq ?_
      show Steps p.tables e below (s₁.setTop (mkF m 2 #[.val (.int p1), .val (.int p2), .val (.int p3), .val (.int p4), .val (.int p5), .unset] [(.int (2 : Int32)), (.int p2)])) _
      refine XS.icmpYes X0.here hx rfl (pc0 := 2) (pc' := 42) rfl (hb hby d1_2) rfl (feq hc2).2 (by decide) (by decide) ?_
      exact kq
    have pre15 : ∀ tq, Steps p.tables e below (s₁.setTop (mkF m 44 #[.val (.int p1), .val (.int p2), .val (.int p3), .val (.int p4), .val (.int p5), .unset] [(.int (3 : Int32)), (.int p2)])) tq → Steps p.tables e below (s₁.setTop (entryFrame m #[(.int p1), (.int p2), (.int p3), (.int p4), (.int p5)] 6)) tq := by
      refine fun tq kq => pre14 tq ?_
      show Steps p.tables e below (s₁.setTop (mkF m 42 #[.val (.int p1), .val (.int p2), .val (.int p3), .val (.int p4), .val (.int p5), .unset] [])) _
      refine XS.iloadN X0.here hx rfl (hb hby d1_42) rfl ?_
      show Steps p.tables e below (s₁.setTop (mkF m 43 #[.val (.int p1), .val (.int p2), .val (.int p3), .val (.int p4), .val (.int p5), .unset] [(.int p2)])) _
      refine XS.iconst X0.here hx rfl (hb hby d1_43) ?_
      exact kq
    by_cases hc44 : p2 = (3 : Int32)
    · skip
      have pre16 : ∀ tq, Steps p.tables e below (s₁.setTop (mkF m 47 #[.val (.int p1), .val (.int p2), .val (.int p3), .val (.int p4), .val (.int p5), .unset] [])) tq → Steps p.tables e below (s₁.setTop (entryFrame m #[(.int p1), (.int p2), (.int p3), (.int p4), (.int p5)] 6)) tq := by
        refine fun tq kq => pre15 tq ?_
        show Steps p.tables e below (s₁.setTop (mkF m 44 #[.val (.int p1), .val (.int p2), .val (.int p3), .val (.int p4), .val (.int p5), .unset] [(.int (3 : Int32)), (.int p2)])) _
        refine XS.icmpNo X0.here hx rfl (hb hby d1_44) rfl (teq hc44).2 ?_
        exact kq
      have pre17 : ∀ tq, Steps p.tables e below (s₁.setTop (mkF m 48 #[.val (.int p1), .val (.int p2), .val (.int p3), .val (.int p4), .val (.int p5), .unset] [(.int p3)])) tq → Steps p.tables e below (s₁.setTop (entryFrame m #[(.int p1), (.int p2), (.int p3), (.int p4), (.int p5)] 6)) tq := by
        refine fun tq kq => pre16 tq ?_
        show Steps p.tables e below (s₁.setTop (mkF m 47 #[.val (.int p1), .val (.int p2), .val (.int p3), .val (.int p4), .val (.int p5), .unset] [])) _
        refine XS.iloadN X0.here hx rfl (hb hby d1_47) rfl ?_
        exact kq
      have Z18 : n0 ≤ h0.size := Z0
      obtain ⟨_, _, ⟨T18, L18, k18, n18⟩, -, X18, ⟨Lc18, hQ18, l18, y18, z18⟩, st18⟩ := Jvm.LawKit.callS X0 hx (y := (⟨"com/example/partwise/partwise/storage/Utf8ContinuesSequencePinLaw", "isCont", "(I)Z"⟩ : MethodName)) hown (mvT hZ (hw _ (List.mem_of_getElem? (i := 6) rfl))) (mvT hZ (hw _ (List.mem_of_getElem? (i := 7) rfl))) (mvT hZ (hw _ (List.mem_of_getElem? (i := 4) rfl))) (mvT hZ (hw _ (List.mem_of_getElem? (i := 8) rfl))) (by decide) (backOf (W := 0) (rm2 l Z a0 hw [] p3  h0 n0 Z18 ) hZ (hw _ (List.mem_of_getElem? (i := 8) rfl)) (hw _ (List.mem_of_getElem? (i := 4) rfl)) (by decide) (by decide)) (g := (mkF m 48 #[.val (.int p1), .val (.int p2), .val (.int p3), .val (.int p4), .val (.int p5), .unset] [(.int p3)])) rfl (by rw [hml]; rfl) (argsL := [(.int p3)]) (rest := []) (lenOf pd1_0 rfl) rfl (by show 2 * 0 + _ ≤ _; exact Nat.le_of_eq rfl) (hb hby d1_48) (fun _ _ => ⟨rfl, e0, (by decide : 0 + 0 ≤ _), (by decide : 0 + 0 ≤ _)⟩)
      dsimp only [Pt.U, Pt.locs, Pt.cells, Pt.slots] at X18 l18 y18 z18 st18 hQ18
      subst l18 y18 z18
      obtain ⟨r19, rfl, Nq18, ehq18, hq18⟩ := hQ18
      have N18 := Fr.app N0 Nq18
      have pre20 : ∀ tq, Steps p.tables e below (T18.setTop (mkF m 51 #[.val (.int p1), .val (.int p2), .val (.int p3), .val (.int p4), .val (.int p5), .unset] [(.int r19)])) tq → Steps p.tables e below (s₁.setTop (entryFrame m #[(.int p1), (.int p2), (.int p3), (.int p4), (.int p5)] 6)) tq := fun tq kq => pre17 tq (st18 _ kq)
      by_cases hc51 : r19 = (0 : Int32)
      · skip
        have pre21 : ∀ tq, Steps p.tables e below (T18.setTop (mkF m 61 #[.val (.int p1), .val (.int p2), .val (.int p3), .val (.int p4), .val (.int p5), .unset] [])) tq → Steps p.tables e below (s₁.setTop (entryFrame m #[(.int p1), (.int p2), (.int p3), (.int p4), (.int p5)] 6)) tq := by
          refine fun tq kq => pre20 tq ?_
          show Steps p.tables e below (T18.setTop (mkF m 51 #[.val (.int p1), .val (.int p2), .val (.int p3), .val (.int p4), .val (.int p5), .unset] [(.int r19)])) _
          refine XS.ifYes X18.here hx rfl (pc0 := 51) (pc' := 61) rfl (hb hby d1_51) rfl ((if0 _ _).trans (teq hc51).1) (by decide) (by decide) ?_
          exact kq
        obtain ⟨fs, hr, hrun, hended, hW, hsame⟩ := X18.leave (v := some (.int (0 : Int32))) (fun h => by rw [Bd.returns] at h; cases h)
        refine ⟨_, _, pre21 _ ?_, hrun, hended, _, _, rfl, ?_, ⟨_, rfl⟩, hW, hsame.mono (by decide) (by decide)⟩
        · skip
          show Steps p.tables e below (T18.setTop (mkF m 61 #[.val (.int p1), .val (.int p2), .val (.int p3), .val (.int p4), .val (.int p5), .unset] [])) _
          refine XS.iconst X18.here hx rfl (hb hby d1_61) ?_
          show Steps p.tables e below (T18.setTop (mkF m 62 #[.val (.int p1), .val (.int p2), .val (.int p3), .val (.int p4), .val (.int p5), .unset] [(.int (0 : Int32))])) _
          exact retN X18 hx (t := .boolean) Bd.returns (by simp) (hb hby d1_62) hr
        · show Q1 Z p1 p2 p3 p4 p5 h0 n0 _ T18.heap _
          rw [ehq18]
          refine ⟨(0 : Int32), rfl, N18, rfl, ?_⟩
          simp only [Int32.lt_iff_toInt_lt, ← Int32.toInt_inj, Int32.reduceToInt, true_and, and_true, false_and, and_false, or_false, false_or, not_true_eq_false, not_false_eq_true, true_implies, false_implies] at hl hbs hc2 hc44 hq18 hc51 ⊢ <;> omega
      · skip
        have pre22 : ∀ tq, Steps p.tables e below (T18.setTop (mkF m 54 #[.val (.int p1), .val (.int p2), .val (.int p3), .val (.int p4), .val (.int p5), .unset] [])) tq → Steps p.tables e below (s₁.setTop (entryFrame m #[(.int p1), (.int p2), (.int p3), (.int p4), (.int p5)] 6)) tq := by
          refine fun tq kq => pre20 tq ?_
          show Steps p.tables e below (T18.setTop (mkF m 51 #[.val (.int p1), .val (.int p2), .val (.int p3), .val (.int p4), .val (.int p5), .unset] [(.int r19)])) _
          refine XS.ifNo X18.here hx rfl (hb hby d1_51) rfl ((if0 _ _).trans (feq hc51).1) ?_
          exact kq
        have pre23 : ∀ tq, Steps p.tables e below (T18.setTop (mkF m 55 #[.val (.int p1), .val (.int p2), .val (.int p3), .val (.int p4), .val (.int p5), .unset] [(.int p4)])) tq → Steps p.tables e below (s₁.setTop (entryFrame m #[(.int p1), (.int p2), (.int p3), (.int p4), (.int p5)] 6)) tq := by
          refine fun tq kq => pre22 tq ?_
          show Steps p.tables e below (T18.setTop (mkF m 54 #[.val (.int p1), .val (.int p2), .val (.int p3), .val (.int p4), .val (.int p5), .unset] [])) _
          refine XS.iloadN X18.here hx rfl (hb hby d1_54) rfl ?_
          exact kq
        have Z24 : n0 ≤ h0.size := Z0
        obtain ⟨_, _, ⟨T24, L24, k24, n24⟩, -, X24, ⟨Lc24, hQ24, l24, y24, z24⟩, st24⟩ := Jvm.LawKit.callS X18 hx (y := (⟨"com/example/partwise/partwise/storage/Utf8ContinuesSequencePinLaw", "isCont", "(I)Z"⟩ : MethodName)) hown (mvT hZ (hw _ (List.mem_of_getElem? (i := 6) rfl))) (mvT hZ (hw _ (List.mem_of_getElem? (i := 7) rfl))) (mvT hZ (hw _ (List.mem_of_getElem? (i := 4) rfl))) (mvT hZ (hw _ (List.mem_of_getElem? (i := 8) rfl))) (by decide) (backOf (W := 0) (rm2 l Z a0 hw [] p4  h0 n0 Z24 ) hZ (hw _ (List.mem_of_getElem? (i := 8) rfl)) (hw _ (List.mem_of_getElem? (i := 4) rfl)) (by decide) (by decide)) (g := (mkF m 55 #[.val (.int p1), .val (.int p2), .val (.int p3), .val (.int p4), .val (.int p5), .unset] [(.int p4)])) rfl (by rw [hml]; rfl) (argsL := [(.int p4)]) (rest := []) (lenOf pd1_0 rfl) rfl (by show 2 * 0 + _ ≤ _; exact Nat.le_of_eq rfl) (hb hby d1_55) (fun _ _ => ⟨rfl, ehq18, (by decide : (0 + 0) + 0 ≤ _), (by decide : (0 + 0) + 0 ≤ _)⟩)
        dsimp only [Pt.U, Pt.locs, Pt.cells, Pt.slots] at X24 l24 y24 z24 st24 hQ24
        subst l24 y24 z24
        obtain ⟨r25, rfl, Nq24, ehq24, hq24⟩ := hQ24
        have N24 := Fr.app N18 Nq24
        have pre26 : ∀ tq, Steps p.tables e below (T24.setTop (mkF m 58 #[.val (.int p1), .val (.int p2), .val (.int p3), .val (.int p4), .val (.int p5), .unset] [(.int r25)])) tq → Steps p.tables e below (s₁.setTop (entryFrame m #[(.int p1), (.int p2), (.int p3), (.int p4), (.int p5)] 6)) tq := fun tq kq => pre23 tq (st24 _ kq)
        by_cases hc58 : r25 = (0 : Int32)
        · skip
          have pre27 : ∀ tq, Steps p.tables e below (T24.setTop (mkF m 61 #[.val (.int p1), .val (.int p2), .val (.int p3), .val (.int p4), .val (.int p5), .unset] [])) tq → Steps p.tables e below (s₁.setTop (entryFrame m #[(.int p1), (.int p2), (.int p3), (.int p4), (.int p5)] 6)) tq := by
            refine fun tq kq => pre26 tq ?_
            show Steps p.tables e below (T24.setTop (mkF m 58 #[.val (.int p1), .val (.int p2), .val (.int p3), .val (.int p4), .val (.int p5), .unset] [(.int r25)])) _
            refine XS.ifNo X24.here hx rfl (hb hby d1_58) rfl ((if0 _ _).trans (teq hc58).2) ?_
            exact kq
          obtain ⟨fs, hr, hrun, hended, hW, hsame⟩ := X24.leave (v := some (.int (0 : Int32))) (fun h => by rw [Bd.returns] at h; cases h)
          refine ⟨_, _, pre27 _ ?_, hrun, hended, _, _, rfl, ?_, ⟨_, rfl⟩, hW, hsame.mono (by decide) (by decide)⟩
          · skip
            show Steps p.tables e below (T24.setTop (mkF m 61 #[.val (.int p1), .val (.int p2), .val (.int p3), .val (.int p4), .val (.int p5), .unset] [])) _
            refine XS.iconst X24.here hx rfl (hb hby d1_61) ?_
            show Steps p.tables e below (T24.setTop (mkF m 62 #[.val (.int p1), .val (.int p2), .val (.int p3), .val (.int p4), .val (.int p5), .unset] [(.int (0 : Int32))])) _
            exact retN X24 hx (t := .boolean) Bd.returns (by simp) (hb hby d1_62) hr
          · show Q1 Z p1 p2 p3 p4 p5 h0 n0 _ T24.heap _
            rw [ehq24]
            refine ⟨(0 : Int32), rfl, N24, rfl, ?_⟩
            simp only [Int32.lt_iff_toInt_lt, ← Int32.toInt_inj, Int32.reduceToInt, true_and, and_true, false_and, and_false, or_false, false_or, not_true_eq_false, not_false_eq_true, true_implies, false_implies] at hl hbs hc2 hc44 hq18 hc51 hq24 hc58 ⊢ <;> omega
        · skip
          have pre28 : ∀ tq, Steps p.tables e below (T24.setTop (mkF m 63 #[.val (.int p1), .val (.int p2), .val (.int p3), .val (.int p4), .val (.int p5), .unset] [])) tq → Steps p.tables e below (s₁.setTop (entryFrame m #[(.int p1), (.int p2), (.int p3), (.int p4), (.int p5)] 6)) tq := by
            refine fun tq kq => pre26 tq ?_
            show Steps p.tables e below (T24.setTop (mkF m 58 #[.val (.int p1), .val (.int p2), .val (.int p3), .val (.int p4), .val (.int p5), .unset] [(.int r25)])) _
            refine XS.ifYes X24.here hx rfl (pc0 := 58) (pc' := 63) rfl (hb hby d1_58) rfl ((if0 _ _).trans (feq hc58).2) (by decide) (by decide) ?_
            exact kq
          obtain ⟨v30, hv_v30, pre29⟩ : ∃ v30 : Int32, v30 = ((((p1 &&& (15 : Int32)) <<< ((12 : Int32) &&& 31)) ||| ((p3 &&& (63 : Int32)) <<< ((6 : Int32) &&& 31))) ||| (p4 &&& (63 : Int32))) ∧ (∀ tq, Steps p.tables e below (T24.setTop (mkF m 85 #[.val (.int p1), .val (.int p2), .val (.int p3), .val (.int p4), .val (.int p5), .val (.int v30)] [])) tq → Steps p.tables e below (s₁.setTop (entryFrame m #[(.int p1), (.int p2), (.int p3), (.int p4), (.int p5)] 6)) tq) := by
            refine ⟨_, rfl, fun tq kq => pre28 tq ?_⟩
            show Steps p.tables e below (T24.setTop (mkF m 63 #[.val (.int p1), .val (.int p2), .val (.int p3), .val (.int p4), .val (.int p5), .unset] [])) _
            refine XS.iloadN X24.here hx rfl (hb hby d1_63) rfl ?_
            show Steps p.tables e below (T24.setTop (mkF m 64 #[.val (.int p1), .val (.int p2), .val (.int p3), .val (.int p4), .val (.int p5), .unset] [(.int p1)])) _
            refine XS.bipush X24.here hx rfl (hb hby d1_64) ?_
            show Steps p.tables e below (T24.setTop (mkF m 66 #[.val (.int p1), .val (.int p2), .val (.int p3), .val (.int p4), .val (.int p5), .unset] [(.int (15 : Int32)), (.int p1)])) _
            refine XS.iand X24.here hx rfl (hb hby d1_66) rfl ?_
            show Steps p.tables e below (T24.setTop (mkF m 67 #[.val (.int p1), .val (.int p2), .val (.int p3), .val (.int p4), .val (.int p5), .unset] [(.int (p1 &&& (15 : Int32)))])) _
            refine XS.bipush X24.here hx rfl (hb hby d1_67) ?_
            show Steps p.tables e below (T24.setTop (mkF m 69 #[.val (.int p1), .val (.int p2), .val (.int p3), .val (.int p4), .val (.int p5), .unset] [(.int (12 : Int32)), (.int (p1 &&& (15 : Int32)))])) _
            refine XS.ishl X24.here hx rfl (hb hby d1_69) rfl ?_
            show Steps p.tables e below (T24.setTop (mkF m 70 #[.val (.int p1), .val (.int p2), .val (.int p3), .val (.int p4), .val (.int p5), .unset] [(.int ((p1 &&& (15 : Int32)) <<< ((12 : Int32) &&& 31)))])) _
            refine XS.iloadN X24.here hx rfl (hb hby d1_70) rfl ?_
            show Steps p.tables e below (T24.setTop (mkF m 71 #[.val (.int p1), .val (.int p2), .val (.int p3), .val (.int p4), .val (.int p5), .unset] [(.int p3), (.int ((p1 &&& (15 : Int32)) <<< ((12 : Int32) &&& 31)))])) _
            refine XS.bipush X24.here hx rfl (hb hby d1_71) ?_
            show Steps p.tables e below (T24.setTop (mkF m 73 #[.val (.int p1), .val (.int p2), .val (.int p3), .val (.int p4), .val (.int p5), .unset] [(.int (63 : Int32)), (.int p3), (.int ((p1 &&& (15 : Int32)) <<< ((12 : Int32) &&& 31)))])) _
            refine XS.iand X24.here hx rfl (hb hby d1_73) rfl ?_
            show Steps p.tables e below (T24.setTop (mkF m 74 #[.val (.int p1), .val (.int p2), .val (.int p3), .val (.int p4), .val (.int p5), .unset] [(.int (p3 &&& (63 : Int32))), (.int ((p1 &&& (15 : Int32)) <<< ((12 : Int32) &&& 31)))])) _
            refine XS.bipush X24.here hx rfl (hb hby d1_74) ?_
            show Steps p.tables e below (T24.setTop (mkF m 76 #[.val (.int p1), .val (.int p2), .val (.int p3), .val (.int p4), .val (.int p5), .unset] [(.int (6 : Int32)), (.int (p3 &&& (63 : Int32))), (.int ((p1 &&& (15 : Int32)) <<< ((12 : Int32) &&& 31)))])) _
            refine XS.ishl X24.here hx rfl (hb hby d1_76) rfl ?_
            show Steps p.tables e below (T24.setTop (mkF m 77 #[.val (.int p1), .val (.int p2), .val (.int p3), .val (.int p4), .val (.int p5), .unset] [(.int ((p3 &&& (63 : Int32)) <<< ((6 : Int32) &&& 31))), (.int ((p1 &&& (15 : Int32)) <<< ((12 : Int32) &&& 31)))])) _
            refine XS.ior X24.here hx rfl (hb hby d1_77) rfl ?_
            show Steps p.tables e below (T24.setTop (mkF m 78 #[.val (.int p1), .val (.int p2), .val (.int p3), .val (.int p4), .val (.int p5), .unset] [(.int (((p1 &&& (15 : Int32)) <<< ((12 : Int32) &&& 31)) ||| ((p3 &&& (63 : Int32)) <<< ((6 : Int32) &&& 31))))])) _
            refine XS.iloadN X24.here hx rfl (hb hby d1_78) rfl ?_
            show Steps p.tables e below (T24.setTop (mkF m 79 #[.val (.int p1), .val (.int p2), .val (.int p3), .val (.int p4), .val (.int p5), .unset] [(.int p4), (.int (((p1 &&& (15 : Int32)) <<< ((12 : Int32) &&& 31)) ||| ((p3 &&& (63 : Int32)) <<< ((6 : Int32) &&& 31))))])) _
            refine XS.bipush X24.here hx rfl (hb hby d1_79) ?_
            show Steps p.tables e below (T24.setTop (mkF m 81 #[.val (.int p1), .val (.int p2), .val (.int p3), .val (.int p4), .val (.int p5), .unset] [(.int (63 : Int32)), (.int p4), (.int (((p1 &&& (15 : Int32)) <<< ((12 : Int32) &&& 31)) ||| ((p3 &&& (63 : Int32)) <<< ((6 : Int32) &&& 31))))])) _
            refine XS.iand X24.here hx rfl (hb hby d1_81) rfl ?_
            show Steps p.tables e below (T24.setTop (mkF m 82 #[.val (.int p1), .val (.int p2), .val (.int p3), .val (.int p4), .val (.int p5), .unset] [(.int (p4 &&& (63 : Int32))), (.int (((p1 &&& (15 : Int32)) <<< ((12 : Int32) &&& 31)) ||| ((p3 &&& (63 : Int32)) <<< ((6 : Int32) &&& 31))))])) _
            refine XS.ior X24.here hx rfl (hb hby d1_82) rfl ?_
            show Steps p.tables e below (T24.setTop (mkF m 83 #[.val (.int p1), .val (.int p2), .val (.int p3), .val (.int p4), .val (.int p5), .unset] [(.int ((((p1 &&& (15 : Int32)) <<< ((12 : Int32) &&& 31)) ||| ((p3 &&& (63 : Int32)) <<< ((6 : Int32) &&& 31))) ||| (p4 &&& (63 : Int32))))])) _
            refine XS.istore X24.here hx rfl (hb hby d1_83) rfl (l' := #[.val (.int p1), .val (.int p2), .val (.int p3), .val (.int p4), .val (.int p5), .val (.int ((((p1 &&& (15 : Int32)) <<< ((12 : Int32) &&& 31)) ||| ((p3 &&& (63 : Int32)) <<< ((6 : Int32) &&& 31))) ||| (p4 &&& (63 : Int32))))]) rfl ?_
            exact kq
          have hcp := own_cp3 (a := p1) (c := p3) (d := p4)
          rw [← hv_v30] at hcp
          have pre31 : ∀ tq, Steps p.tables e below (T24.setTop (mkF m 90 #[.val (.int p1), .val (.int p2), .val (.int p3), .val (.int p4), .val (.int p5), .val (.int v30)] [(.int (2048 : Int32)), (.int v30)])) tq → Steps p.tables e below (s₁.setTop (entryFrame m #[(.int p1), (.int p2), (.int p3), (.int p4), (.int p5)] 6)) tq := by
            refine fun tq kq => pre29 tq ?_
            show Steps p.tables e below (T24.setTop (mkF m 85 #[.val (.int p1), .val (.int p2), .val (.int p3), .val (.int p4), .val (.int p5), .val (.int v30)] [])) _
            refine XS.iload X24.here hx rfl (hb hby d1_85) rfl ?_
            show Steps p.tables e below (T24.setTop (mkF m 87 #[.val (.int p1), .val (.int p2), .val (.int p3), .val (.int p4), .val (.int p5), .val (.int v30)] [(.int v30)])) _
            refine XS.sipush X24.here hx rfl (hb hby d1_87) ?_
            exact kq
          by_cases hc90 : v30 < (2048 : Int32)
          · skip
            have pre32 : ∀ tq, Steps p.tables e below (T24.setTop (mkF m 111 #[.val (.int p1), .val (.int p2), .val (.int p3), .val (.int p4), .val (.int p5), .val (.int v30)] [])) tq → Steps p.tables e below (s₁.setTop (entryFrame m #[(.int p1), (.int p2), (.int p3), (.int p4), (.int p5)] 6)) tq := by
              refine fun tq kq => pre31 tq ?_
              show Steps p.tables e below (T24.setTop (mkF m 90 #[.val (.int p1), .val (.int p2), .val (.int p3), .val (.int p4), .val (.int p5), .val (.int v30)] [(.int (2048 : Int32)), (.int v30)])) _
              refine XS.icmpYes X24.here hx rfl (pc0 := 90) (pc' := 111) rfl (hb hby d1_90) rfl (tlt hc90).1 (by decide) (by decide) ?_
              exact kq
            obtain ⟨fs, hr, hrun, hended, hW, hsame⟩ := X24.leave (v := some (.int (0 : Int32))) (fun h => by rw [Bd.returns] at h; cases h)
            refine ⟨_, _, pre32 _ ?_, hrun, hended, _, _, rfl, ?_, ⟨_, rfl⟩, hW, hsame.mono (by decide) (by decide)⟩
            · skip
              show Steps p.tables e below (T24.setTop (mkF m 111 #[.val (.int p1), .val (.int p2), .val (.int p3), .val (.int p4), .val (.int p5), .val (.int v30)] [])) _
              refine XS.iconst X24.here hx rfl (hb hby d1_111) ?_
              show Steps p.tables e below (T24.setTop (mkF m 112 #[.val (.int p1), .val (.int p2), .val (.int p3), .val (.int p4), .val (.int p5), .val (.int v30)] [(.int (0 : Int32))])) _
              exact retN X24 hx (t := .boolean) Bd.returns (by simp) (hb hby d1_112) hr
            · show Q1 Z p1 p2 p3 p4 p5 h0 n0 _ T24.heap _
              rw [ehq24]
              refine ⟨(0 : Int32), rfl, N24, rfl, ?_⟩
              simp only [Int32.lt_iff_toInt_lt, ← Int32.toInt_inj, Int32.reduceToInt, true_and, and_true, false_and, and_false, or_false, false_or, not_true_eq_false, not_false_eq_true, true_implies, false_implies] at hl hbs hc2 hc44 hq18 hc51 hq24 hc58 hv_v30 hc90 ⊢ <;> omega
          · skip
            have pre33 : ∀ tq, Steps p.tables e below (T24.setTop (mkF m 93 #[.val (.int p1), .val (.int p2), .val (.int p3), .val (.int p4), .val (.int p5), .val (.int v30)] [])) tq → Steps p.tables e below (s₁.setTop (entryFrame m #[(.int p1), (.int p2), (.int p3), (.int p4), (.int p5)] 6)) tq := by
              refine fun tq kq => pre31 tq ?_
              show Steps p.tables e below (T24.setTop (mkF m 90 #[.val (.int p1), .val (.int p2), .val (.int p3), .val (.int p4), .val (.int p5), .val (.int v30)] [(.int (2048 : Int32)), (.int v30)])) _
              refine XS.icmpNo X24.here hx rfl (hb hby d1_90) rfl (flt hc90).1 ?_
              exact kq
            have pre34 : ∀ tq, Steps p.tables e below (T24.setTop (mkF m 97 #[.val (.int p1), .val (.int p2), .val (.int p3), .val (.int p4), .val (.int p5), .val (.int v30)] [(.int (55296 : Int32)), (.int v30)])) tq → Steps p.tables e below (s₁.setTop (entryFrame m #[(.int p1), (.int p2), (.int p3), (.int p4), (.int p5)] 6)) tq := by
              refine fun tq kq => pre33 tq ?_
              show Steps p.tables e below (T24.setTop (mkF m 93 #[.val (.int p1), .val (.int p2), .val (.int p3), .val (.int p4), .val (.int p5), .val (.int v30)] [])) _
              refine XS.iload X24.here hx rfl (hb hby d1_93) rfl ?_
              show Steps p.tables e below (T24.setTop (mkF m 95 #[.val (.int p1), .val (.int p2), .val (.int p3), .val (.int p4), .val (.int p5), .val (.int v30)] [(.int v30)])) _
              refine X24.ldcInt hx hown (mvT hZ (hw _ (List.mem_of_getElem? (i := 13) rfl))) (g := (mkF m 95 #[.val (.int p1), .val (.int p2), .val (.int p3), .val (.int p4), .val (.int p5), .val (.int v30)] [(.int v30)])) rfl (hb hby d1_95) _ ?_
              exact kq
            by_cases hc97 : v30 < (55296 : Int32)
            · skip
              have pre35 : ∀ tq, Steps p.tables e below (T24.setTop (mkF m 107 #[.val (.int p1), .val (.int p2), .val (.int p3), .val (.int p4), .val (.int p5), .val (.int v30)] [])) tq → Steps p.tables e below (s₁.setTop (entryFrame m #[(.int p1), (.int p2), (.int p3), (.int p4), (.int p5)] 6)) tq := by
                refine fun tq kq => pre34 tq ?_
                show Steps p.tables e below (T24.setTop (mkF m 97 #[.val (.int p1), .val (.int p2), .val (.int p3), .val (.int p4), .val (.int p5), .val (.int v30)] [(.int (55296 : Int32)), (.int v30)])) _
                refine XS.icmpYes X24.here hx rfl (pc0 := 97) (pc' := 107) rfl (hb hby d1_97) rfl (tlt hc97).1 (by decide) (by decide) ?_
                exact kq
              obtain ⟨fs, hr, hrun, hended, hW, hsame⟩ := X24.leave (v := some (.int (1 : Int32))) (fun h => by rw [Bd.returns] at h; cases h)
              refine ⟨_, _, pre35 _ ?_, hrun, hended, _, _, rfl, ?_, ⟨_, rfl⟩, hW, hsame.mono (by decide) (by decide)⟩
              · skip
                show Steps p.tables e below (T24.setTop (mkF m 107 #[.val (.int p1), .val (.int p2), .val (.int p3), .val (.int p4), .val (.int p5), .val (.int v30)] [])) _
                refine XS.iconst X24.here hx rfl (hb hby d1_107) ?_
                show Steps p.tables e below (T24.setTop (mkF m 108 #[.val (.int p1), .val (.int p2), .val (.int p3), .val (.int p4), .val (.int p5), .val (.int v30)] [(.int (1 : Int32))])) _
                refine XS.goto X24.here hx rfl (pc0 := 108) (pc' := 112) rfl (hb hby d1_108) (by decide) (by decide) ?_
                show Steps p.tables e below (T24.setTop (mkF m 112 #[.val (.int p1), .val (.int p2), .val (.int p3), .val (.int p4), .val (.int p5), .val (.int v30)] [(.int (1 : Int32))])) _
                exact retN X24 hx (t := .boolean) Bd.returns (by simp) (hb hby d1_112) hr
              · show Q1 Z p1 p2 p3 p4 p5 h0 n0 _ T24.heap _
                rw [ehq24]
                refine ⟨(1 : Int32), rfl, N24, rfl, ?_⟩
                simp only [Int32.lt_iff_toInt_lt, ← Int32.toInt_inj, Int32.reduceToInt, true_and, and_true, false_and, and_false, or_false, false_or, not_true_eq_false, not_false_eq_true, true_implies, false_implies] at hl hbs hc2 hc44 hq18 hc51 hq24 hc58 hv_v30 hc90 hc97 ⊢ <;> omega
            · skip
              have pre36 : ∀ tq, Steps p.tables e below (T24.setTop (mkF m 100 #[.val (.int p1), .val (.int p2), .val (.int p3), .val (.int p4), .val (.int p5), .val (.int v30)] [])) tq → Steps p.tables e below (s₁.setTop (entryFrame m #[(.int p1), (.int p2), (.int p3), (.int p4), (.int p5)] 6)) tq := by
                refine fun tq kq => pre34 tq ?_
                show Steps p.tables e below (T24.setTop (mkF m 97 #[.val (.int p1), .val (.int p2), .val (.int p3), .val (.int p4), .val (.int p5), .val (.int v30)] [(.int (55296 : Int32)), (.int v30)])) _
                refine XS.icmpNo X24.here hx rfl (hb hby d1_97) rfl (flt hc97).1 ?_
                exact kq
              have pre37 : ∀ tq, Steps p.tables e below (T24.setTop (mkF m 104 #[.val (.int p1), .val (.int p2), .val (.int p3), .val (.int p4), .val (.int p5), .val (.int v30)] [(.int (57343 : Int32)), (.int v30)])) tq → Steps p.tables e below (s₁.setTop (entryFrame m #[(.int p1), (.int p2), (.int p3), (.int p4), (.int p5)] 6)) tq := by
                refine fun tq kq => pre36 tq ?_
                show Steps p.tables e below (T24.setTop (mkF m 100 #[.val (.int p1), .val (.int p2), .val (.int p3), .val (.int p4), .val (.int p5), .val (.int v30)] [])) _
                refine XS.iload X24.here hx rfl (hb hby d1_100) rfl ?_
                show Steps p.tables e below (T24.setTop (mkF m 102 #[.val (.int p1), .val (.int p2), .val (.int p3), .val (.int p4), .val (.int p5), .val (.int v30)] [(.int v30)])) _
                refine X24.ldcInt hx hown (mvT hZ (hw _ (List.mem_of_getElem? (i := 14) rfl))) (g := (mkF m 102 #[.val (.int p1), .val (.int p2), .val (.int p3), .val (.int p4), .val (.int p5), .val (.int v30)] [(.int v30)])) rfl (hb hby d1_102) _ ?_
                exact kq
              by_cases hc104 : (57343 : Int32) < v30
              · skip
                have pre38 : ∀ tq, Steps p.tables e below (T24.setTop (mkF m 107 #[.val (.int p1), .val (.int p2), .val (.int p3), .val (.int p4), .val (.int p5), .val (.int v30)] [])) tq → Steps p.tables e below (s₁.setTop (entryFrame m #[(.int p1), (.int p2), (.int p3), (.int p4), (.int p5)] 6)) tq := by
                  refine fun tq kq => pre37 tq ?_
                  show Steps p.tables e below (T24.setTop (mkF m 104 #[.val (.int p1), .val (.int p2), .val (.int p3), .val (.int p4), .val (.int p5), .val (.int v30)] [(.int (57343 : Int32)), (.int v30)])) _
                  refine XS.icmpNo X24.here hx rfl (hb hby d1_104) rfl (tlt hc104).2.2.2 ?_
                  exact kq
                obtain ⟨fs, hr, hrun, hended, hW, hsame⟩ := X24.leave (v := some (.int (1 : Int32))) (fun h => by rw [Bd.returns] at h; cases h)
                refine ⟨_, _, pre38 _ ?_, hrun, hended, _, _, rfl, ?_, ⟨_, rfl⟩, hW, hsame.mono (by decide) (by decide)⟩
                · skip
                  show Steps p.tables e below (T24.setTop (mkF m 107 #[.val (.int p1), .val (.int p2), .val (.int p3), .val (.int p4), .val (.int p5), .val (.int v30)] [])) _
                  refine XS.iconst X24.here hx rfl (hb hby d1_107) ?_
                  show Steps p.tables e below (T24.setTop (mkF m 108 #[.val (.int p1), .val (.int p2), .val (.int p3), .val (.int p4), .val (.int p5), .val (.int v30)] [(.int (1 : Int32))])) _
                  refine XS.goto X24.here hx rfl (pc0 := 108) (pc' := 112) rfl (hb hby d1_108) (by decide) (by decide) ?_
                  show Steps p.tables e below (T24.setTop (mkF m 112 #[.val (.int p1), .val (.int p2), .val (.int p3), .val (.int p4), .val (.int p5), .val (.int v30)] [(.int (1 : Int32))])) _
                  exact retN X24 hx (t := .boolean) Bd.returns (by simp) (hb hby d1_112) hr
                · show Q1 Z p1 p2 p3 p4 p5 h0 n0 _ T24.heap _
                  rw [ehq24]
                  refine ⟨(1 : Int32), rfl, N24, rfl, ?_⟩
                  simp only [Int32.lt_iff_toInt_lt, ← Int32.toInt_inj, Int32.reduceToInt, true_and, and_true, false_and, and_false, or_false, false_or, not_true_eq_false, not_false_eq_true, true_implies, false_implies] at hl hbs hc2 hc44 hq18 hc51 hq24 hc58 hv_v30 hc90 hc97 hc104 ⊢ <;> omega
              · skip
                have pre39 : ∀ tq, Steps p.tables e below (T24.setTop (mkF m 111 #[.val (.int p1), .val (.int p2), .val (.int p3), .val (.int p4), .val (.int p5), .val (.int v30)] [])) tq → Steps p.tables e below (s₁.setTop (entryFrame m #[(.int p1), (.int p2), (.int p3), (.int p4), (.int p5)] 6)) tq := by
                  refine fun tq kq => pre37 tq ?_
                  show Steps p.tables e below (T24.setTop (mkF m 104 #[.val (.int p1), .val (.int p2), .val (.int p3), .val (.int p4), .val (.int p5), .val (.int v30)] [(.int (57343 : Int32)), (.int v30)])) _
                  refine XS.icmpYes X24.here hx rfl (pc0 := 104) (pc' := 111) rfl (hb hby d1_104) rfl (flt hc104).2.2.2 (by decide) (by decide) ?_
                  exact kq
                obtain ⟨fs, hr, hrun, hended, hW, hsame⟩ := X24.leave (v := some (.int (0 : Int32))) (fun h => by rw [Bd.returns] at h; cases h)
                refine ⟨_, _, pre39 _ ?_, hrun, hended, _, _, rfl, ?_, ⟨_, rfl⟩, hW, hsame.mono (by decide) (by decide)⟩
                · skip
                  show Steps p.tables e below (T24.setTop (mkF m 111 #[.val (.int p1), .val (.int p2), .val (.int p3), .val (.int p4), .val (.int p5), .val (.int v30)] [])) _
                  refine XS.iconst X24.here hx rfl (hb hby d1_111) ?_
                  show Steps p.tables e below (T24.setTop (mkF m 112 #[.val (.int p1), .val (.int p2), .val (.int p3), .val (.int p4), .val (.int p5), .val (.int v30)] [(.int (0 : Int32))])) _
                  exact retN X24 hx (t := .boolean) Bd.returns (by simp) (hb hby d1_112) hr
                · show Q1 Z p1 p2 p3 p4 p5 h0 n0 _ T24.heap _
                  rw [ehq24]
                  refine ⟨(0 : Int32), rfl, N24, rfl, ?_⟩
                  simp only [Int32.lt_iff_toInt_lt, ← Int32.toInt_inj, Int32.reduceToInt, true_and, and_true, false_and, and_false, or_false, false_or, not_true_eq_false, not_false_eq_true, true_implies, false_implies] at hl hbs hc2 hc44 hq18 hc51 hq24 hc58 hv_v30 hc90 hc97 hc104 ⊢ <;> omega
    · skip
      have pre40 : ∀ tq, Steps p.tables e below (s₁.setTop (mkF m 113 #[.val (.int p1), .val (.int p2), .val (.int p3), .val (.int p4), .val (.int p5), .unset] [])) tq → Steps p.tables e below (s₁.setTop (entryFrame m #[(.int p1), (.int p2), (.int p3), (.int p4), (.int p5)] 6)) tq := by
        refine fun tq kq => pre15 tq ?_
        show Steps p.tables e below (s₁.setTop (mkF m 44 #[.val (.int p1), .val (.int p2), .val (.int p3), .val (.int p4), .val (.int p5), .unset] [(.int (3 : Int32)), (.int p2)])) _
        refine XS.icmpYes X0.here hx rfl (pc0 := 44) (pc' := 113) rfl (hb hby d1_44) rfl (feq hc44).2 (by decide) (by decide) ?_
        exact kq
      have pre41 : ∀ tq, Steps p.tables e below (s₁.setTop (mkF m 114 #[.val (.int p1), .val (.int p2), .val (.int p3), .val (.int p4), .val (.int p5), .unset] [(.int p3)])) tq → Steps p.tables e below (s₁.setTop (entryFrame m #[(.int p1), (.int p2), (.int p3), (.int p4), (.int p5)] 6)) tq := by
        refine fun tq kq => pre40 tq ?_
        show Steps p.tables e below (s₁.setTop (mkF m 113 #[.val (.int p1), .val (.int p2), .val (.int p3), .val (.int p4), .val (.int p5), .unset] [])) _
        refine XS.iloadN X0.here hx rfl (hb hby d1_113) rfl ?_
        exact kq
      have Z42 : n0 ≤ h0.size := Z0
      obtain ⟨_, _, ⟨T42, L42, k42, n42⟩, -, X42, ⟨Lc42, hQ42, l42, y42, z42⟩, st42⟩ := Jvm.LawKit.callS X0 hx (y := (⟨"com/example/partwise/partwise/storage/Utf8ContinuesSequencePinLaw", "isCont", "(I)Z"⟩ : MethodName)) hown (mvT hZ (hw _ (List.mem_of_getElem? (i := 6) rfl))) (mvT hZ (hw _ (List.mem_of_getElem? (i := 7) rfl))) (mvT hZ (hw _ (List.mem_of_getElem? (i := 4) rfl))) (mvT hZ (hw _ (List.mem_of_getElem? (i := 8) rfl))) (by decide) (backOf (W := 0) (rm2 l Z a0 hw [] p3  h0 n0 Z42 ) hZ (hw _ (List.mem_of_getElem? (i := 8) rfl)) (hw _ (List.mem_of_getElem? (i := 4) rfl)) (by decide) (by decide)) (g := (mkF m 114 #[.val (.int p1), .val (.int p2), .val (.int p3), .val (.int p4), .val (.int p5), .unset] [(.int p3)])) rfl (by rw [hml]; rfl) (argsL := [(.int p3)]) (rest := []) (lenOf pd1_0 rfl) rfl (by show 2 * 0 + _ ≤ _; exact Nat.le_of_eq rfl) (hb hby d1_114) (fun _ _ => ⟨rfl, e0, (by decide : 0 + 0 ≤ _), (by decide : 0 + 0 ≤ _)⟩)
      dsimp only [Pt.U, Pt.locs, Pt.cells, Pt.slots] at X42 l42 y42 z42 st42 hQ42
      subst l42 y42 z42
      obtain ⟨r43, rfl, Nq42, ehq42, hq42⟩ := hQ42
      have N42 := Fr.app N0 Nq42
      have pre44 : ∀ tq, Steps p.tables e below (T42.setTop (mkF m 117 #[.val (.int p1), .val (.int p2), .val (.int p3), .val (.int p4), .val (.int p5), .unset] [(.int r43)])) tq → Steps p.tables e below (s₁.setTop (entryFrame m #[(.int p1), (.int p2), (.int p3), (.int p4), (.int p5)] 6)) tq := fun tq kq => pre41 tq (st42 _ kq)
      by_cases hc117 : r43 = (0 : Int32)
      · skip
        have pre45 : ∀ tq, Steps p.tables e below (T42.setTop (mkF m 135 #[.val (.int p1), .val (.int p2), .val (.int p3), .val (.int p4), .val (.int p5), .unset] [])) tq → Steps p.tables e below (s₁.setTop (entryFrame m #[(.int p1), (.int p2), (.int p3), (.int p4), (.int p5)] 6)) tq := by
          refine fun tq kq => pre44 tq ?_
          show Steps p.tables e below (T42.setTop (mkF m 117 #[.val (.int p1), .val (.int p2), .val (.int p3), .val (.int p4), .val (.int p5), .unset] [(.int r43)])) _
          refine XS.ifYes X42.here hx rfl (pc0 := 117) (pc' := 135) rfl (hb hby d1_117) rfl ((if0 _ _).trans (teq hc117).1) (by decide) (by decide) ?_
          exact kq
        obtain ⟨fs, hr, hrun, hended, hW, hsame⟩ := X42.leave (v := some (.int (0 : Int32))) (fun h => by rw [Bd.returns] at h; cases h)
        refine ⟨_, _, pre45 _ ?_, hrun, hended, _, _, rfl, ?_, ⟨_, rfl⟩, hW, hsame.mono (by decide) (by decide)⟩
        · skip
          show Steps p.tables e below (T42.setTop (mkF m 135 #[.val (.int p1), .val (.int p2), .val (.int p3), .val (.int p4), .val (.int p5), .unset] [])) _
          refine XS.iconst X42.here hx rfl (hb hby d1_135) ?_
          show Steps p.tables e below (T42.setTop (mkF m 136 #[.val (.int p1), .val (.int p2), .val (.int p3), .val (.int p4), .val (.int p5), .unset] [(.int (0 : Int32))])) _
          exact retN X42 hx (t := .boolean) Bd.returns (by simp) (hb hby d1_136) hr
        · show Q1 Z p1 p2 p3 p4 p5 h0 n0 _ T42.heap _
          rw [ehq42]
          refine ⟨(0 : Int32), rfl, N42, rfl, ?_⟩
          simp only [Int32.lt_iff_toInt_lt, ← Int32.toInt_inj, Int32.reduceToInt, true_and, and_true, false_and, and_false, or_false, false_or, not_true_eq_false, not_false_eq_true, true_implies, false_implies] at hl hbs hc2 hc44 hq42 hc117 ⊢ <;> omega
      · skip
        have pre46 : ∀ tq, Steps p.tables e below (T42.setTop (mkF m 120 #[.val (.int p1), .val (.int p2), .val (.int p3), .val (.int p4), .val (.int p5), .unset] [])) tq → Steps p.tables e below (s₁.setTop (entryFrame m #[(.int p1), (.int p2), (.int p3), (.int p4), (.int p5)] 6)) tq := by
          refine fun tq kq => pre44 tq ?_
          show Steps p.tables e below (T42.setTop (mkF m 117 #[.val (.int p1), .val (.int p2), .val (.int p3), .val (.int p4), .val (.int p5), .unset] [(.int r43)])) _
          refine XS.ifNo X42.here hx rfl (hb hby d1_117) rfl ((if0 _ _).trans (feq hc117).1) ?_
          exact kq
        have pre47 : ∀ tq, Steps p.tables e below (T42.setTop (mkF m 121 #[.val (.int p1), .val (.int p2), .val (.int p3), .val (.int p4), .val (.int p5), .unset] [(.int p4)])) tq → Steps p.tables e below (s₁.setTop (entryFrame m #[(.int p1), (.int p2), (.int p3), (.int p4), (.int p5)] 6)) tq := by
          refine fun tq kq => pre46 tq ?_
          show Steps p.tables e below (T42.setTop (mkF m 120 #[.val (.int p1), .val (.int p2), .val (.int p3), .val (.int p4), .val (.int p5), .unset] [])) _
          refine XS.iloadN X42.here hx rfl (hb hby d1_120) rfl ?_
          exact kq
        have Z48 : n0 ≤ h0.size := Z0
        obtain ⟨_, _, ⟨T48, L48, k48, n48⟩, -, X48, ⟨Lc48, hQ48, l48, y48, z48⟩, st48⟩ := Jvm.LawKit.callS X42 hx (y := (⟨"com/example/partwise/partwise/storage/Utf8ContinuesSequencePinLaw", "isCont", "(I)Z"⟩ : MethodName)) hown (mvT hZ (hw _ (List.mem_of_getElem? (i := 6) rfl))) (mvT hZ (hw _ (List.mem_of_getElem? (i := 7) rfl))) (mvT hZ (hw _ (List.mem_of_getElem? (i := 4) rfl))) (mvT hZ (hw _ (List.mem_of_getElem? (i := 8) rfl))) (by decide) (backOf (W := 0) (rm2 l Z a0 hw [] p4  h0 n0 Z48 ) hZ (hw _ (List.mem_of_getElem? (i := 8) rfl)) (hw _ (List.mem_of_getElem? (i := 4) rfl)) (by decide) (by decide)) (g := (mkF m 121 #[.val (.int p1), .val (.int p2), .val (.int p3), .val (.int p4), .val (.int p5), .unset] [(.int p4)])) rfl (by rw [hml]; rfl) (argsL := [(.int p4)]) (rest := []) (lenOf pd1_0 rfl) rfl (by show 2 * 0 + _ ≤ _; exact Nat.le_of_eq rfl) (hb hby d1_121) (fun _ _ => ⟨rfl, ehq42, (by decide : (0 + 0) + 0 ≤ _), (by decide : (0 + 0) + 0 ≤ _)⟩)
        dsimp only [Pt.U, Pt.locs, Pt.cells, Pt.slots] at X48 l48 y48 z48 st48 hQ48
        subst l48 y48 z48
        obtain ⟨r49, rfl, Nq48, ehq48, hq48⟩ := hQ48
        have N48 := Fr.app N42 Nq48
        have pre50 : ∀ tq, Steps p.tables e below (T48.setTop (mkF m 124 #[.val (.int p1), .val (.int p2), .val (.int p3), .val (.int p4), .val (.int p5), .unset] [(.int r49)])) tq → Steps p.tables e below (s₁.setTop (entryFrame m #[(.int p1), (.int p2), (.int p3), (.int p4), (.int p5)] 6)) tq := fun tq kq => pre47 tq (st48 _ kq)
        by_cases hc124 : r49 = (0 : Int32)
        · skip
          have pre51 : ∀ tq, Steps p.tables e below (T48.setTop (mkF m 135 #[.val (.int p1), .val (.int p2), .val (.int p3), .val (.int p4), .val (.int p5), .unset] [])) tq → Steps p.tables e below (s₁.setTop (entryFrame m #[(.int p1), (.int p2), (.int p3), (.int p4), (.int p5)] 6)) tq := by
            refine fun tq kq => pre50 tq ?_
            show Steps p.tables e below (T48.setTop (mkF m 124 #[.val (.int p1), .val (.int p2), .val (.int p3), .val (.int p4), .val (.int p5), .unset] [(.int r49)])) _
            refine XS.ifYes X48.here hx rfl (pc0 := 124) (pc' := 135) rfl (hb hby d1_124) rfl ((if0 _ _).trans (teq hc124).1) (by decide) (by decide) ?_
            exact kq
          obtain ⟨fs, hr, hrun, hended, hW, hsame⟩ := X48.leave (v := some (.int (0 : Int32))) (fun h => by rw [Bd.returns] at h; cases h)
          refine ⟨_, _, pre51 _ ?_, hrun, hended, _, _, rfl, ?_, ⟨_, rfl⟩, hW, hsame.mono (by decide) (by decide)⟩
          · skip
            show Steps p.tables e below (T48.setTop (mkF m 135 #[.val (.int p1), .val (.int p2), .val (.int p3), .val (.int p4), .val (.int p5), .unset] [])) _
            refine XS.iconst X48.here hx rfl (hb hby d1_135) ?_
            show Steps p.tables e below (T48.setTop (mkF m 136 #[.val (.int p1), .val (.int p2), .val (.int p3), .val (.int p4), .val (.int p5), .unset] [(.int (0 : Int32))])) _
            exact retN X48 hx (t := .boolean) Bd.returns (by simp) (hb hby d1_136) hr
          · show Q1 Z p1 p2 p3 p4 p5 h0 n0 _ T48.heap _
            rw [ehq48]
            refine ⟨(0 : Int32), rfl, N48, rfl, ?_⟩
            simp only [Int32.lt_iff_toInt_lt, ← Int32.toInt_inj, Int32.reduceToInt, true_and, and_true, false_and, and_false, or_false, false_or, not_true_eq_false, not_false_eq_true, true_implies, false_implies] at hl hbs hc2 hc44 hq42 hc117 hq48 hc124 ⊢ <;> omega
        · skip
          have pre52 : ∀ tq, Steps p.tables e below (T48.setTop (mkF m 127 #[.val (.int p1), .val (.int p2), .val (.int p3), .val (.int p4), .val (.int p5), .unset] [])) tq → Steps p.tables e below (s₁.setTop (entryFrame m #[(.int p1), (.int p2), (.int p3), (.int p4), (.int p5)] 6)) tq := by
            refine fun tq kq => pre50 tq ?_
            show Steps p.tables e below (T48.setTop (mkF m 124 #[.val (.int p1), .val (.int p2), .val (.int p3), .val (.int p4), .val (.int p5), .unset] [(.int r49)])) _
            refine XS.ifNo X48.here hx rfl (hb hby d1_124) rfl ((if0 _ _).trans (feq hc124).1) ?_
            exact kq
          have pre53 : ∀ tq, Steps p.tables e below (T48.setTop (mkF m 129 #[.val (.int p1), .val (.int p2), .val (.int p3), .val (.int p4), .val (.int p5), .unset] [(.int p5)])) tq → Steps p.tables e below (s₁.setTop (entryFrame m #[(.int p1), (.int p2), (.int p3), (.int p4), (.int p5)] 6)) tq := by
            refine fun tq kq => pre52 tq ?_
            show Steps p.tables e below (T48.setTop (mkF m 127 #[.val (.int p1), .val (.int p2), .val (.int p3), .val (.int p4), .val (.int p5), .unset] [])) _
            refine XS.iload X48.here hx rfl (hb hby d1_127) rfl ?_
            exact kq
          have Z54 : n0 ≤ h0.size := Z0
          obtain ⟨_, _, ⟨T54, L54, k54, n54⟩, -, X54, ⟨Lc54, hQ54, l54, y54, z54⟩, st54⟩ := Jvm.LawKit.callS X48 hx (y := (⟨"com/example/partwise/partwise/storage/Utf8ContinuesSequencePinLaw", "isCont", "(I)Z"⟩ : MethodName)) hown (mvT hZ (hw _ (List.mem_of_getElem? (i := 6) rfl))) (mvT hZ (hw _ (List.mem_of_getElem? (i := 7) rfl))) (mvT hZ (hw _ (List.mem_of_getElem? (i := 4) rfl))) (mvT hZ (hw _ (List.mem_of_getElem? (i := 8) rfl))) (by decide) (backOf (W := 0) (rm2 l Z a0 hw [] p5  h0 n0 Z54 ) hZ (hw _ (List.mem_of_getElem? (i := 8) rfl)) (hw _ (List.mem_of_getElem? (i := 4) rfl)) (by decide) (by decide)) (g := (mkF m 129 #[.val (.int p1), .val (.int p2), .val (.int p3), .val (.int p4), .val (.int p5), .unset] [(.int p5)])) rfl (by rw [hml]; rfl) (argsL := [(.int p5)]) (rest := []) (lenOf pd1_0 rfl) rfl (by show 2 * 0 + _ ≤ _; exact Nat.le_of_eq rfl) (hb hby d1_129) (fun _ _ => ⟨rfl, ehq48, (by decide : ((0 + 0) + 0) + 0 ≤ _), (by decide : ((0 + 0) + 0) + 0 ≤ _)⟩)
          dsimp only [Pt.U, Pt.locs, Pt.cells, Pt.slots] at X54 l54 y54 z54 st54 hQ54
          subst l54 y54 z54
          obtain ⟨r55, rfl, Nq54, ehq54, hq54⟩ := hQ54
          have N54 := Fr.app N48 Nq54
          have pre56 : ∀ tq, Steps p.tables e below (T54.setTop (mkF m 132 #[.val (.int p1), .val (.int p2), .val (.int p3), .val (.int p4), .val (.int p5), .unset] [(.int r55)])) tq → Steps p.tables e below (s₁.setTop (entryFrame m #[(.int p1), (.int p2), (.int p3), (.int p4), (.int p5)] 6)) tq := fun tq kq => pre53 tq (st54 _ kq)
          by_cases hc132 : r55 = (0 : Int32)
          · skip
            have pre57 : ∀ tq, Steps p.tables e below (T54.setTop (mkF m 135 #[.val (.int p1), .val (.int p2), .val (.int p3), .val (.int p4), .val (.int p5), .unset] [])) tq → Steps p.tables e below (s₁.setTop (entryFrame m #[(.int p1), (.int p2), (.int p3), (.int p4), (.int p5)] 6)) tq := by
              refine fun tq kq => pre56 tq ?_
              show Steps p.tables e below (T54.setTop (mkF m 132 #[.val (.int p1), .val (.int p2), .val (.int p3), .val (.int p4), .val (.int p5), .unset] [(.int r55)])) _
              refine XS.ifNo X54.here hx rfl (hb hby d1_132) rfl ((if0 _ _).trans (teq hc132).2) ?_
              exact kq
            obtain ⟨fs, hr, hrun, hended, hW, hsame⟩ := X54.leave (v := some (.int (0 : Int32))) (fun h => by rw [Bd.returns] at h; cases h)
            refine ⟨_, _, pre57 _ ?_, hrun, hended, _, _, rfl, ?_, ⟨_, rfl⟩, hW, hsame.mono (by decide) (by decide)⟩
            · skip
              show Steps p.tables e below (T54.setTop (mkF m 135 #[.val (.int p1), .val (.int p2), .val (.int p3), .val (.int p4), .val (.int p5), .unset] [])) _
              refine XS.iconst X54.here hx rfl (hb hby d1_135) ?_
              show Steps p.tables e below (T54.setTop (mkF m 136 #[.val (.int p1), .val (.int p2), .val (.int p3), .val (.int p4), .val (.int p5), .unset] [(.int (0 : Int32))])) _
              exact retN X54 hx (t := .boolean) Bd.returns (by simp) (hb hby d1_136) hr
            · show Q1 Z p1 p2 p3 p4 p5 h0 n0 _ T54.heap _
              rw [ehq54]
              refine ⟨(0 : Int32), rfl, N54, rfl, ?_⟩
              simp only [Int32.lt_iff_toInt_lt, ← Int32.toInt_inj, Int32.reduceToInt, true_and, and_true, false_and, and_false, or_false, false_or, not_true_eq_false, not_false_eq_true, true_implies, false_implies] at hl hbs hc2 hc44 hq42 hc117 hq48 hc124 hq54 hc132 ⊢ <;> omega
          · skip
            have pre58 : ∀ tq, Steps p.tables e below (T54.setTop (mkF m 137 #[.val (.int p1), .val (.int p2), .val (.int p3), .val (.int p4), .val (.int p5), .unset] [])) tq → Steps p.tables e below (s₁.setTop (entryFrame m #[(.int p1), (.int p2), (.int p3), (.int p4), (.int p5)] 6)) tq := by
              refine fun tq kq => pre56 tq ?_
              show Steps p.tables e below (T54.setTop (mkF m 132 #[.val (.int p1), .val (.int p2), .val (.int p3), .val (.int p4), .val (.int p5), .unset] [(.int r55)])) _
              refine XS.ifYes X54.here hx rfl (pc0 := 132) (pc' := 137) rfl (hb hby d1_132) rfl ((if0 _ _).trans (feq hc132).2) (by decide) (by decide) ?_
              exact kq
            obtain ⟨v60, hv_v60, pre59⟩ : ∃ v60 : Int32, v60 = (((((p1 &&& (7 : Int32)) <<< ((18 : Int32) &&& 31)) ||| ((p3 &&& (63 : Int32)) <<< ((12 : Int32) &&& 31))) ||| ((p4 &&& (63 : Int32)) <<< ((6 : Int32) &&& 31))) ||| (p5 &&& (63 : Int32))) ∧ (∀ tq, Steps p.tables e below (T54.setTop (mkF m 168 #[.val (.int p1), .val (.int p2), .val (.int p3), .val (.int p4), .val (.int p5), .val (.int v60)] [])) tq → Steps p.tables e below (s₁.setTop (entryFrame m #[(.int p1), (.int p2), (.int p3), (.int p4), (.int p5)] 6)) tq) := by
              refine ⟨_, rfl, fun tq kq => pre58 tq ?_⟩
              show Steps p.tables e below (T54.setTop (mkF m 137 #[.val (.int p1), .val (.int p2), .val (.int p3), .val (.int p4), .val (.int p5), .unset] [])) _
              refine XS.iloadN X54.here hx rfl (hb hby d1_137) rfl ?_
              show Steps p.tables e below (T54.setTop (mkF m 138 #[.val (.int p1), .val (.int p2), .val (.int p3), .val (.int p4), .val (.int p5), .unset] [(.int p1)])) _
              refine XS.bipush X54.here hx rfl (hb hby d1_138) ?_
              show Steps p.tables e below (T54.setTop (mkF m 140 #[.val (.int p1), .val (.int p2), .val (.int p3), .val (.int p4), .val (.int p5), .unset] [(.int (7 : Int32)), (.int p1)])) _
              refine XS.iand X54.here hx rfl (hb hby d1_140) rfl ?_
              show Steps p.tables e below (T54.setTop (mkF m 141 #[.val (.int p1), .val (.int p2), .val (.int p3), .val (.int p4), .val (.int p5), .unset] [(.int (p1 &&& (7 : Int32)))])) _
              refine XS.bipush X54.here hx rfl (hb hby d1_141) ?_
              show Steps p.tables e below (T54.setTop (mkF m 143 #[.val (.int p1), .val (.int p2), .val (.int p3), .val (.int p4), .val (.int p5), .unset] [(.int (18 : Int32)), (.int (p1 &&& (7 : Int32)))])) _
              refine XS.ishl X54.here hx rfl (hb hby d1_143) rfl ?_
              show Steps p.tables e below (T54.setTop (mkF m 144 #[.val (.int p1), .val (.int p2), .val (.int p3), .val (.int p4), .val (.int p5), .unset] [(.int ((p1 &&& (7 : Int32)) <<< ((18 : Int32) &&& 31)))])) _
              refine XS.iloadN X54.here hx rfl (hb hby d1_144) rfl ?_
              show Steps p.tables e below (T54.setTop (mkF m 145 #[.val (.int p1), .val (.int p2), .val (.int p3), .val (.int p4), .val (.int p5), .unset] [(.int p3), (.int ((p1 &&& (7 : Int32)) <<< ((18 : Int32) &&& 31)))])) _
              refine XS.bipush X54.here hx rfl (hb hby d1_145) ?_
              show Steps p.tables e below (T54.setTop (mkF m 147 #[.val (.int p1), .val (.int p2), .val (.int p3), .val (.int p4), .val (.int p5), .unset] [(.int (63 : Int32)), (.int p3), (.int ((p1 &&& (7 : Int32)) <<< ((18 : Int32) &&& 31)))])) _
              refine XS.iand X54.here hx rfl (hb hby d1_147) rfl ?_
              show Steps p.tables e below (T54.setTop (mkF m 148 #[.val (.int p1), .val (.int p2), .val (.int p3), .val (.int p4), .val (.int p5), .unset] [(.int (p3 &&& (63 : Int32))), (.int ((p1 &&& (7 : Int32)) <<< ((18 : Int32) &&& 31)))])) _
              refine XS.bipush X54.here hx rfl (hb hby d1_148) ?_
              show Steps p.tables e below (T54.setTop (mkF m 150 #[.val (.int p1), .val (.int p2), .val (.int p3), .val (.int p4), .val (.int p5), .unset] [(.int (12 : Int32)), (.int (p3 &&& (63 : Int32))), (.int ((p1 &&& (7 : Int32)) <<< ((18 : Int32) &&& 31)))])) _
              refine XS.ishl X54.here hx rfl (hb hby d1_150) rfl ?_
              show Steps p.tables e below (T54.setTop (mkF m 151 #[.val (.int p1), .val (.int p2), .val (.int p3), .val (.int p4), .val (.int p5), .unset] [(.int ((p3 &&& (63 : Int32)) <<< ((12 : Int32) &&& 31))), (.int ((p1 &&& (7 : Int32)) <<< ((18 : Int32) &&& 31)))])) _
              refine XS.ior X54.here hx rfl (hb hby d1_151) rfl ?_
              show Steps p.tables e below (T54.setTop (mkF m 152 #[.val (.int p1), .val (.int p2), .val (.int p3), .val (.int p4), .val (.int p5), .unset] [(.int (((p1 &&& (7 : Int32)) <<< ((18 : Int32) &&& 31)) ||| ((p3 &&& (63 : Int32)) <<< ((12 : Int32) &&& 31))))])) _
              refine XS.iloadN X54.here hx rfl (hb hby d1_152) rfl ?_
              show Steps p.tables e below (T54.setTop (mkF m 153 #[.val (.int p1), .val (.int p2), .val (.int p3), .val (.int p4), .val (.int p5), .unset] [(.int p4), (.int (((p1 &&& (7 : Int32)) <<< ((18 : Int32) &&& 31)) ||| ((p3 &&& (63 : Int32)) <<< ((12 : Int32) &&& 31))))])) _
              refine XS.bipush X54.here hx rfl (hb hby d1_153) ?_
              show Steps p.tables e below (T54.setTop (mkF m 155 #[.val (.int p1), .val (.int p2), .val (.int p3), .val (.int p4), .val (.int p5), .unset] [(.int (63 : Int32)), (.int p4), (.int (((p1 &&& (7 : Int32)) <<< ((18 : Int32) &&& 31)) ||| ((p3 &&& (63 : Int32)) <<< ((12 : Int32) &&& 31))))])) _
              refine XS.iand X54.here hx rfl (hb hby d1_155) rfl ?_
              show Steps p.tables e below (T54.setTop (mkF m 156 #[.val (.int p1), .val (.int p2), .val (.int p3), .val (.int p4), .val (.int p5), .unset] [(.int (p4 &&& (63 : Int32))), (.int (((p1 &&& (7 : Int32)) <<< ((18 : Int32) &&& 31)) ||| ((p3 &&& (63 : Int32)) <<< ((12 : Int32) &&& 31))))])) _
              refine XS.bipush X54.here hx rfl (hb hby d1_156) ?_
              show Steps p.tables e below (T54.setTop (mkF m 158 #[.val (.int p1), .val (.int p2), .val (.int p3), .val (.int p4), .val (.int p5), .unset] [(.int (6 : Int32)), (.int (p4 &&& (63 : Int32))), (.int (((p1 &&& (7 : Int32)) <<< ((18 : Int32) &&& 31)) ||| ((p3 &&& (63 : Int32)) <<< ((12 : Int32) &&& 31))))])) _
              refine XS.ishl X54.here hx rfl (hb hby d1_158) rfl ?_
              show Steps p.tables e below (T54.setTop (mkF m 159 #[.val (.int p1), .val (.int p2), .val (.int p3), .val (.int p4), .val (.int p5), .unset] [(.int ((p4 &&& (63 : Int32)) <<< ((6 : Int32) &&& 31))), (.int (((p1 &&& (7 : Int32)) <<< ((18 : Int32) &&& 31)) ||| ((p3 &&& (63 : Int32)) <<< ((12 : Int32) &&& 31))))])) _
              refine XS.ior X54.here hx rfl (hb hby d1_159) rfl ?_
              show Steps p.tables e below (T54.setTop (mkF m 160 #[.val (.int p1), .val (.int p2), .val (.int p3), .val (.int p4), .val (.int p5), .unset] [(.int ((((p1 &&& (7 : Int32)) <<< ((18 : Int32) &&& 31)) ||| ((p3 &&& (63 : Int32)) <<< ((12 : Int32) &&& 31))) ||| ((p4 &&& (63 : Int32)) <<< ((6 : Int32) &&& 31))))])) _
              refine XS.iload X54.here hx rfl (hb hby d1_160) rfl ?_
              show Steps p.tables e below (T54.setTop (mkF m 162 #[.val (.int p1), .val (.int p2), .val (.int p3), .val (.int p4), .val (.int p5), .unset] [(.int p5), (.int ((((p1 &&& (7 : Int32)) <<< ((18 : Int32) &&& 31)) ||| ((p3 &&& (63 : Int32)) <<< ((12 : Int32) &&& 31))) ||| ((p4 &&& (63 : Int32)) <<< ((6 : Int32) &&& 31))))])) _
              refine XS.bipush X54.here hx rfl (hb hby d1_162) ?_
              show Steps p.tables e below (T54.setTop (mkF m 164 #[.val (.int p1), .val (.int p2), .val (.int p3), .val (.int p4), .val (.int p5), .unset] [(.int (63 : Int32)), (.int p5), (.int ((((p1 &&& (7 : Int32)) <<< ((18 : Int32) &&& 31)) ||| ((p3 &&& (63 : Int32)) <<< ((12 : Int32) &&& 31))) ||| ((p4 &&& (63 : Int32)) <<< ((6 : Int32) &&& 31))))])) _
              refine XS.iand X54.here hx rfl (hb hby d1_164) rfl ?_
              show Steps p.tables e below (T54.setTop (mkF m 165 #[.val (.int p1), .val (.int p2), .val (.int p3), .val (.int p4), .val (.int p5), .unset] [(.int (p5 &&& (63 : Int32))), (.int ((((p1 &&& (7 : Int32)) <<< ((18 : Int32) &&& 31)) ||| ((p3 &&& (63 : Int32)) <<< ((12 : Int32) &&& 31))) ||| ((p4 &&& (63 : Int32)) <<< ((6 : Int32) &&& 31))))])) _
              refine XS.ior X54.here hx rfl (hb hby d1_165) rfl ?_
              show Steps p.tables e below (T54.setTop (mkF m 166 #[.val (.int p1), .val (.int p2), .val (.int p3), .val (.int p4), .val (.int p5), .unset] [(.int (((((p1 &&& (7 : Int32)) <<< ((18 : Int32) &&& 31)) ||| ((p3 &&& (63 : Int32)) <<< ((12 : Int32) &&& 31))) ||| ((p4 &&& (63 : Int32)) <<< ((6 : Int32) &&& 31))) ||| (p5 &&& (63 : Int32))))])) _
              refine XS.istore X54.here hx rfl (hb hby d1_166) rfl (l' := #[.val (.int p1), .val (.int p2), .val (.int p3), .val (.int p4), .val (.int p5), .val (.int (((((p1 &&& (7 : Int32)) <<< ((18 : Int32) &&& 31)) ||| ((p3 &&& (63 : Int32)) <<< ((12 : Int32) &&& 31))) ||| ((p4 &&& (63 : Int32)) <<< ((6 : Int32) &&& 31))) ||| (p5 &&& (63 : Int32))))]) rfl ?_
              exact kq
            have hcp := own_cp4 (a := p1) (c := p3) (d := p4) (f := p5)
            rw [← hv_v60] at hcp
            have pre61 : ∀ tq, Steps p.tables e below (T54.setTop (mkF m 172 #[.val (.int p1), .val (.int p2), .val (.int p3), .val (.int p4), .val (.int p5), .val (.int v60)] [(.int (65536 : Int32)), (.int v60)])) tq → Steps p.tables e below (s₁.setTop (entryFrame m #[(.int p1), (.int p2), (.int p3), (.int p4), (.int p5)] 6)) tq := by
              refine fun tq kq => pre59 tq ?_
              show Steps p.tables e below (T54.setTop (mkF m 168 #[.val (.int p1), .val (.int p2), .val (.int p3), .val (.int p4), .val (.int p5), .val (.int v60)] [])) _
              refine XS.iload X54.here hx rfl (hb hby d1_168) rfl ?_
              show Steps p.tables e below (T54.setTop (mkF m 170 #[.val (.int p1), .val (.int p2), .val (.int p3), .val (.int p4), .val (.int p5), .val (.int v60)] [(.int v60)])) _
              refine X54.ldcInt hx hown (mvT hZ (hw _ (List.mem_of_getElem? (i := 15) rfl))) (g := (mkF m 170 #[.val (.int p1), .val (.int p2), .val (.int p3), .val (.int p4), .val (.int p5), .val (.int v60)] [(.int v60)])) rfl (hb hby d1_170) _ ?_
              exact kq
            by_cases hc172 : v60 < (65536 : Int32)
            · skip
              have pre62 : ∀ tq, Steps p.tables e below (T54.setTop (mkF m 186 #[.val (.int p1), .val (.int p2), .val (.int p3), .val (.int p4), .val (.int p5), .val (.int v60)] [])) tq → Steps p.tables e below (s₁.setTop (entryFrame m #[(.int p1), (.int p2), (.int p3), (.int p4), (.int p5)] 6)) tq := by
                refine fun tq kq => pre61 tq ?_
                show Steps p.tables e below (T54.setTop (mkF m 172 #[.val (.int p1), .val (.int p2), .val (.int p3), .val (.int p4), .val (.int p5), .val (.int v60)] [(.int (65536 : Int32)), (.int v60)])) _
                refine XS.icmpYes X54.here hx rfl (pc0 := 172) (pc' := 186) rfl (hb hby d1_172) rfl (tlt hc172).1 (by decide) (by decide) ?_
                exact kq
              obtain ⟨fs, hr, hrun, hended, hW, hsame⟩ := X54.leave (v := some (.int (0 : Int32))) (fun h => by rw [Bd.returns] at h; cases h)
              refine ⟨_, _, pre62 _ ?_, hrun, hended, _, _, rfl, ?_, ⟨_, rfl⟩, hW, hsame.mono (by decide) (by decide)⟩
              · skip
                show Steps p.tables e below (T54.setTop (mkF m 186 #[.val (.int p1), .val (.int p2), .val (.int p3), .val (.int p4), .val (.int p5), .val (.int v60)] [])) _
                refine XS.iconst X54.here hx rfl (hb hby d1_186) ?_
                show Steps p.tables e below (T54.setTop (mkF m 187 #[.val (.int p1), .val (.int p2), .val (.int p3), .val (.int p4), .val (.int p5), .val (.int v60)] [(.int (0 : Int32))])) _
                exact retN X54 hx (t := .boolean) Bd.returns (by simp) (hb hby d1_187) hr
              · show Q1 Z p1 p2 p3 p4 p5 h0 n0 _ T54.heap _
                rw [ehq54]
                refine ⟨(0 : Int32), rfl, N54, rfl, ?_⟩
                simp only [Int32.lt_iff_toInt_lt, ← Int32.toInt_inj, Int32.reduceToInt, true_and, and_true, false_and, and_false, or_false, false_or, not_true_eq_false, not_false_eq_true, true_implies, false_implies] at hl hbs hc2 hc44 hq42 hc117 hq48 hc124 hq54 hc132 hv_v60 hc172 ⊢ <;> omega
            · skip
              have pre63 : ∀ tq, Steps p.tables e below (T54.setTop (mkF m 175 #[.val (.int p1), .val (.int p2), .val (.int p3), .val (.int p4), .val (.int p5), .val (.int v60)] [])) tq → Steps p.tables e below (s₁.setTop (entryFrame m #[(.int p1), (.int p2), (.int p3), (.int p4), (.int p5)] 6)) tq := by
                refine fun tq kq => pre61 tq ?_
                show Steps p.tables e below (T54.setTop (mkF m 172 #[.val (.int p1), .val (.int p2), .val (.int p3), .val (.int p4), .val (.int p5), .val (.int v60)] [(.int (65536 : Int32)), (.int v60)])) _
                refine XS.icmpNo X54.here hx rfl (hb hby d1_172) rfl (flt hc172).1 ?_
                exact kq
              have pre64 : ∀ tq, Steps p.tables e below (T54.setTop (mkF m 179 #[.val (.int p1), .val (.int p2), .val (.int p3), .val (.int p4), .val (.int p5), .val (.int v60)] [(.int (1114111 : Int32)), (.int v60)])) tq → Steps p.tables e below (s₁.setTop (entryFrame m #[(.int p1), (.int p2), (.int p3), (.int p4), (.int p5)] 6)) tq := by
                refine fun tq kq => pre63 tq ?_
                show Steps p.tables e below (T54.setTop (mkF m 175 #[.val (.int p1), .val (.int p2), .val (.int p3), .val (.int p4), .val (.int p5), .val (.int v60)] [])) _
                refine XS.iload X54.here hx rfl (hb hby d1_175) rfl ?_
                show Steps p.tables e below (T54.setTop (mkF m 177 #[.val (.int p1), .val (.int p2), .val (.int p3), .val (.int p4), .val (.int p5), .val (.int v60)] [(.int v60)])) _
                refine X54.ldcInt hx hown (mvT hZ (hw _ (List.mem_of_getElem? (i := 16) rfl))) (g := (mkF m 177 #[.val (.int p1), .val (.int p2), .val (.int p3), .val (.int p4), .val (.int p5), .val (.int v60)] [(.int v60)])) rfl (hb hby d1_177) _ ?_
                exact kq
              by_cases hc179 : (1114111 : Int32) < v60
              · skip
                have pre65 : ∀ tq, Steps p.tables e below (T54.setTop (mkF m 186 #[.val (.int p1), .val (.int p2), .val (.int p3), .val (.int p4), .val (.int p5), .val (.int v60)] [])) tq → Steps p.tables e below (s₁.setTop (entryFrame m #[(.int p1), (.int p2), (.int p3), (.int p4), (.int p5)] 6)) tq := by
                  refine fun tq kq => pre64 tq ?_
                  show Steps p.tables e below (T54.setTop (mkF m 179 #[.val (.int p1), .val (.int p2), .val (.int p3), .val (.int p4), .val (.int p5), .val (.int v60)] [(.int (1114111 : Int32)), (.int v60)])) _
                  refine XS.icmpYes X54.here hx rfl (pc0 := 179) (pc' := 186) rfl (hb hby d1_179) rfl (tlt hc179).2.2.1 (by decide) (by decide) ?_
                  exact kq
                obtain ⟨fs, hr, hrun, hended, hW, hsame⟩ := X54.leave (v := some (.int (0 : Int32))) (fun h => by rw [Bd.returns] at h; cases h)
                refine ⟨_, _, pre65 _ ?_, hrun, hended, _, _, rfl, ?_, ⟨_, rfl⟩, hW, hsame.mono (by decide) (by decide)⟩
                · skip
                  show Steps p.tables e below (T54.setTop (mkF m 186 #[.val (.int p1), .val (.int p2), .val (.int p3), .val (.int p4), .val (.int p5), .val (.int v60)] [])) _
                  refine XS.iconst X54.here hx rfl (hb hby d1_186) ?_
                  show Steps p.tables e below (T54.setTop (mkF m 187 #[.val (.int p1), .val (.int p2), .val (.int p3), .val (.int p4), .val (.int p5), .val (.int v60)] [(.int (0 : Int32))])) _
                  exact retN X54 hx (t := .boolean) Bd.returns (by simp) (hb hby d1_187) hr
                · show Q1 Z p1 p2 p3 p4 p5 h0 n0 _ T54.heap _
                  rw [ehq54]
                  refine ⟨(0 : Int32), rfl, N54, rfl, ?_⟩
                  simp only [Int32.lt_iff_toInt_lt, ← Int32.toInt_inj, Int32.reduceToInt, true_and, and_true, false_and, and_false, or_false, false_or, not_true_eq_false, not_false_eq_true, true_implies, false_implies] at hl hbs hc2 hc44 hq42 hc117 hq48 hc124 hq54 hc132 hv_v60 hc172 hc179 ⊢ <;> omega
              · skip
                have pre66 : ∀ tq, Steps p.tables e below (T54.setTop (mkF m 182 #[.val (.int p1), .val (.int p2), .val (.int p3), .val (.int p4), .val (.int p5), .val (.int v60)] [])) tq → Steps p.tables e below (s₁.setTop (entryFrame m #[(.int p1), (.int p2), (.int p3), (.int p4), (.int p5)] 6)) tq := by
                  refine fun tq kq => pre64 tq ?_
                  show Steps p.tables e below (T54.setTop (mkF m 179 #[.val (.int p1), .val (.int p2), .val (.int p3), .val (.int p4), .val (.int p5), .val (.int v60)] [(.int (1114111 : Int32)), (.int v60)])) _
                  refine XS.icmpNo X54.here hx rfl (hb hby d1_179) rfl (flt hc179).2.2.1 ?_
                  exact kq
                obtain ⟨fs, hr, hrun, hended, hW, hsame⟩ := X54.leave (v := some (.int (1 : Int32))) (fun h => by rw [Bd.returns] at h; cases h)
                refine ⟨_, _, pre66 _ ?_, hrun, hended, _, _, rfl, ?_, ⟨_, rfl⟩, hW, hsame.mono (by decide) (by decide)⟩
                · skip
                  show Steps p.tables e below (T54.setTop (mkF m 182 #[.val (.int p1), .val (.int p2), .val (.int p3), .val (.int p4), .val (.int p5), .val (.int v60)] [])) _
                  refine XS.iconst X54.here hx rfl (hb hby d1_182) ?_
                  show Steps p.tables e below (T54.setTop (mkF m 183 #[.val (.int p1), .val (.int p2), .val (.int p3), .val (.int p4), .val (.int p5), .val (.int v60)] [(.int (1 : Int32))])) _
                  refine XS.goto X54.here hx rfl (pc0 := 183) (pc' := 187) rfl (hb hby d1_183) (by decide) (by decide) ?_
                  show Steps p.tables e below (T54.setTop (mkF m 187 #[.val (.int p1), .val (.int p2), .val (.int p3), .val (.int p4), .val (.int p5), .val (.int v60)] [(.int (1 : Int32))])) _
                  exact retN X54 hx (t := .boolean) Bd.returns (by simp) (hb hby d1_187) hr
                · show Q1 Z p1 p2 p3 p4 p5 h0 n0 _ T54.heap _
                  rw [ehq54]
                  refine ⟨(1 : Int32), rfl, N54, rfl, ?_⟩
                  simp only [Int32.lt_iff_toInt_lt, ← Int32.toInt_inj, Int32.reduceToInt, true_and, and_true, false_and, and_false, or_false, false_or, not_true_eq_false, not_false_eq_true, true_implies, false_implies] at hl hbs hc2 hc44 hq42 hc117 hq48 hc124 hq54 hc132 hv_v60 hc172 hc179 ⊢ <;> omega
/-! body 3 -/
theorem d3_0 : decode prog_139_method_5_code 0 = .ok (.aload_n 0, 1) := by decide +kernel
theorem d3_1 : decode prog_139_method_5_code 1 = .ok (.iload_n 1, 1) := by decide +kernel
theorem d3_2 : decode prog_139_method_5_code 2 = .ok (.baload, 1) := by decide +kernel
theorem d3_3 : decode prog_139_method_5_code 3 = .ok (.sipush 255, 3) := by decide +kernel
theorem d3_6 : decode prog_139_method_5_code 6 = .ok (.iand, 1) := by decide +kernel
theorem d3_7 : decode prog_139_method_5_code 7 = .ok (.istore_n 3, 1) := by decide +kernel
theorem d3_8 : decode prog_139_method_5_code 8 = .ok (.iload_n 3, 1) := by decide +kernel
theorem d3_9 : decode prog_139_method_5_code 9 = .ok (.sipush 224, 3) := by decide +kernel
theorem d3_12 : decode prog_139_method_5_code 12 = .ok (.if_icmp .ne 9, 3) := by decide +kernel
theorem d3_15 : decode prog_139_method_5_code 15 = .ok (.sipush 160, 3) := by decide +kernel
theorem d3_18 : decode prog_139_method_5_code 18 = .ok (.goto 19, 3) := by decide +kernel
theorem d3_21 : decode prog_139_method_5_code 21 = .ok (.iload_n 3, 1) := by decide +kernel
theorem d3_22 : decode prog_139_method_5_code 22 = .ok (.sipush 240, 3) := by decide +kernel
theorem d3_25 : decode prog_139_method_5_code 25 = .ok (.if_icmp .ne 9, 3) := by decide +kernel
theorem d3_28 : decode prog_139_method_5_code 28 = .ok (.sipush 144, 3) := by decide +kernel
theorem d3_31 : decode prog_139_method_5_code 31 = .ok (.goto 6, 3) := by decide +kernel
theorem d3_34 : decode prog_139_method_5_code 34 = .ok (.sipush 128, 3) := by decide +kernel
theorem d3_37 : decode prog_139_method_5_code 37 = .ok (.istore 4, 2) := by decide +kernel
theorem d3_39 : decode prog_139_method_5_code 39 = .ok (.iload_n 3, 1) := by decide +kernel
theorem d3_40 : decode prog_139_method_5_code 40 = .ok (.sipush 237, 3) := by decide +kernel
theorem d3_43 : decode prog_139_method_5_code 43 = .ok (.if_icmp .ne 9, 3) := by decide +kernel
theorem d3_46 : decode prog_139_method_5_code 46 = .ok (.sipush 159, 3) := by decide +kernel
theorem d3_49 : decode prog_139_method_5_code 49 = .ok (.goto 19, 3) := by decide +kernel
theorem d3_52 : decode prog_139_method_5_code 52 = .ok (.iload_n 3, 1) := by decide +kernel
theorem d3_53 : decode prog_139_method_5_code 53 = .ok (.sipush 244, 3) := by decide +kernel
theorem d3_56 : decode prog_139_method_5_code 56 = .ok (.if_icmp .ne 9, 3) := by decide +kernel
theorem d3_59 : decode prog_139_method_5_code 59 = .ok (.sipush 143, 3) := by decide +kernel
theorem d3_62 : decode prog_139_method_5_code 62 = .ok (.goto 6, 3) := by decide +kernel
theorem d3_65 : decode prog_139_method_5_code 65 = .ok (.sipush 191, 3) := by decide +kernel
theorem d3_68 : decode prog_139_method_5_code 68 = .ok (.istore 5, 2) := by decide +kernel
theorem d3_70 : decode prog_139_method_5_code 70 = .ok (.iconst 1, 1) := by decide +kernel
theorem d3_71 : decode prog_139_method_5_code 71 = .ok (.istore 6, 2) := by decide +kernel
theorem d3_73 : decode prog_139_method_5_code 73 = .ok (.iload 6, 2) := by decide +kernel
theorem d3_75 : decode prog_139_method_5_code 75 = .ok (.iload_n 2, 1) := by decide +kernel
theorem d3_76 : decode prog_139_method_5_code 76 = .ok (.if_icmp .ge 47, 3) := by decide +kernel
theorem d3_79 : decode prog_139_method_5_code 79 = .ok (.aload_n 0, 1) := by decide +kernel
theorem d3_80 : decode prog_139_method_5_code 80 = .ok (.iload_n 1, 1) := by decide +kernel
theorem d3_81 : decode prog_139_method_5_code 81 = .ok (.iload 6, 2) := by decide +kernel
theorem d3_83 : decode prog_139_method_5_code 83 = .ok (.iadd, 1) := by decide +kernel
theorem d3_84 : decode prog_139_method_5_code 84 = .ok (.baload, 1) := by decide +kernel
theorem d3_85 : decode prog_139_method_5_code 85 = .ok (.sipush 255, 3) := by decide +kernel
theorem d3_88 : decode prog_139_method_5_code 88 = .ok (.iand, 1) := by decide +kernel
theorem d3_89 : decode prog_139_method_5_code 89 = .ok (.istore 7, 2) := by decide +kernel
theorem d3_91 : decode prog_139_method_5_code 91 = .ok (.iload 7, 2) := by decide +kernel
theorem d3_93 : decode prog_139_method_5_code 93 = .ok (.iload 4, 2) := by decide +kernel
theorem d3_95 : decode prog_139_method_5_code 95 = .ok (.if_icmp .lt 10, 3) := by decide +kernel
theorem d3_98 : decode prog_139_method_5_code 98 = .ok (.iload 7, 2) := by decide +kernel
theorem d3_100 : decode prog_139_method_5_code 100 = .ok (.iload 5, 2) := by decide +kernel
theorem d3_102 : decode prog_139_method_5_code 102 = .ok (.if_icmp .le 5, 3) := by decide +kernel
theorem d3_105 : decode prog_139_method_5_code 105 = .ok (.iconst 0, 1) := by decide +kernel
theorem d3_106 : decode prog_139_method_5_code 106 = .ok (.ireturn, 1) := by decide +kernel
theorem d3_107 : decode prog_139_method_5_code 107 = .ok (.sipush 128, 3) := by decide +kernel
theorem d3_110 : decode prog_139_method_5_code 110 = .ok (.istore 4, 2) := by decide +kernel
theorem d3_112 : decode prog_139_method_5_code 112 = .ok (.sipush 191, 3) := by decide +kernel
theorem d3_115 : decode prog_139_method_5_code 115 = .ok (.istore 5, 2) := by decide +kernel
theorem d3_117 : decode prog_139_method_5_code 117 = .ok (.iinc 6 1, 3) := by decide +kernel
theorem d3_120 : decode prog_139_method_5_code 120 = .ok (.goto (-47), 3) := by decide +kernel
theorem d3_123 : decode prog_139_method_5_code 123 = .ok (.iconst 1, 1) := by decide +kernel
theorem d3_124 : decode prog_139_method_5_code 124 = .ok (.ireturn, 1) := by decide +kernel
theorem pn_3 : plainName "com/example/partwise/partwise/storage/Utf8" = true := by first | (simp [plainName, overriddenIn]; done) | decide +kernel
theorem ef_3 (m : MethodId) (a1 : Addr) (p2 : Int32) (p3 : Int32) : entryFrame m #[(.ref a1), (.int p2), (.int p3)] 8 = mkF m 0 #[.val (.ref a1), .val (.int p2), .val (.int p3), .unset, .unset, .unset, .unset, .unset] [] := by first | (simp [entryFrame, mkF, argsToLocals, Value.category]; done) | rfl
def Q3 (Z : State) (a1 : Addr) (p2 : Int32) (p3 : Int32) (k : ClassId) (vs : List Value) (dv : Value) (y0 : Int32) (y1 : Int32) (y2 : Int32) (y3 : Int32) (h0 : Heap) (n0 : Nat) (v : Option Value) (h : Heap) (L : List Loc) : Prop := ∃ r : Int32, v = some (.int r) ∧ Fr n0 L ∧ h = h0 ∧ ((r.toInt = 1 ∧ (128 ≤ (y1 &&& (255 : Int32)).toInt ∧ (y1 &&& (255 : Int32)).toInt ≤ 191 ∧ (3 ≤ p3.toInt → 128 ≤ (y2 &&& (255 : Int32)).toInt ∧ (y2 &&& (255 : Int32)).toInt ≤ 191) ∧ (p3.toInt = 4 → 128 ≤ (y3 &&& (255 : Int32)).toInt ∧ (y3 &&& (255 : Int32)).toInt ≤ 191) ∧ ((y0 &&& (255 : Int32)).toInt = 224 → 160 ≤ (y1 &&& (255 : Int32)).toInt) ∧ ((y0 &&& (255 : Int32)).toInt = 237 → (y1 &&& (255 : Int32)).toInt ≤ 159) ∧ ((y0 &&& (255 : Int32)).toInt = 240 → 144 ≤ (y1 &&& (255 : Int32)).toInt) ∧ ((y0 &&& (255 : Int32)).toInt = 244 → (y1 &&& (255 : Int32)).toInt ≤ 143))) ∨ (r.toInt = 0 ∧ ¬ (128 ≤ (y1 &&& (255 : Int32)).toInt ∧ (y1 &&& (255 : Int32)).toInt ≤ 191 ∧ (3 ≤ p3.toInt → 128 ≤ (y2 &&& (255 : Int32)).toInt ∧ (y2 &&& (255 : Int32)).toInt ≤ 191) ∧ (p3.toInt = 4 → 128 ≤ (y3 &&& (255 : Int32)).toInt ∧ (y3 &&& (255 : Int32)).toInt ≤ 191) ∧ ((y0 &&& (255 : Int32)).toInt = 224 → 160 ≤ (y1 &&& (255 : Int32)).toInt) ∧ ((y0 &&& (255 : Int32)).toInt = 237 → (y1 &&& (255 : Int32)).toInt ≤ 159) ∧ ((y0 &&& (255 : Int32)).toInt = 240 → 144 ≤ (y1 &&& (255 : Int32)).toInt) ∧ ((y0 &&& (255 : Int32)).toInt = 244 → (y1 &&& (255 : Int32)).toInt ≤ 143))))
set_option maxRecDepth 65536 in
set_option maxHeartbeats 40000000 in
theorem rm3 (l : Launch) (Z : State) (a0 : Array Value) (hw : ∀ d ∈ tables_1, d.before a0 Z = true) (ws : List Jvm.Cond) (a1 : Addr) (p2 : Int32) (p3 : Int32) (k : ClassId) (vs : List Value) (dv : Value) (y0 : Int32) (y1 : Int32) (y2 : Int32) (y3 : Int32) (h0 : Heap) (n0 : Nat) (Z0 : n0 ≤ h0.size) (V_a1 : Arv Z h0 a1 k .byte (8 : Int32) vs dv) (hbd : 0 ≤ p2.toInt ∧ p2.toInt ≤ 3) (hlen : p3 = (2 : Int32) ∨ p3 = (3 : Int32) ∨ p3 = (4 : Int32)) (hat0 : vs.getD (p2).toNatClampNeg dv = .int y0) (hat1 : vs.getD (p2 + (1 : Int32)).toNatClampNeg dv = .int y1) (hat2 : vs.getD (p2 + (2 : Int32)).toNatClampNeg dv = .int y2) (hat3 : vs.getD (p2 + (3 : Int32)).toNatClampNeg dv = .int y3) :
    MetFree l (⟨"com/example/partwise/partwise/storage/Utf8", "continuesSequence", "([BII)Z"⟩ : MethodName) (head1 (Jvm.Cond.code (⟨"com/example/partwise/partwise/storage/Utf8", "continuesSequence", "([BII)Z"⟩ : MethodName) prog_139_method_5_code 8 (some .boolean) :: ws) ({ frames := 0, cells := 0, slots := 0, locals := 0 } : Room)) (fun a U => a = #[(.ref a1), (.int p2), (.int p3)] ∧ Z.Warmed39 U.vm ∧ U.heap = h0) (fun _ _ _ _ _ => True) (fun _ U o U' => ∃ v L, o = .returned v ∧ Q3 Z a1 p2 p3 k vs dv y0 y1 y2 y3 h0 n0 v U'.heap L ∧ FrameEnd U o U' L ({ frames := 0, cells := 0, slots := 0, locals := 0 } : Room).cells ({ frames := 0, cells := 0, slots := 0, locals := 0 } : Room).slots) := by
  refine MetFree.of_bodySF (plainFor_of_name pn_3) hisR ?_
  intro p e s m args below meth c s₁ Bd hml0 hP hK
  obtain ⟨rfl, hZ, hh⟩ := hP
  have hx := Bd.exec
  have hby := Bd.bytes
  have hml : c.maxLocals = 8 := hml0
  have hown : s.vm.findClass "com/example/partwise/partwise/storage/Utf8" = some m.cls := findClass_of_methodNamed Bd.named
  have hnm := (name_of_methodNamed Bd.named Bd.method).1
  have X0 : Stand p l e ({ frames := 0, cells := 0, slots := 0, locals := 0 } : Room) s m #[(.ref a1), (.int p2), (.int p3)] below meth c s₁ [] 0 0 := Stand.of_body Bd
  have e0 : s₁.heap = h0 := by rw [← hh, Bd.state]; rfl
  have N0 := Fr.nil n0
  have pre0 : ∀ tq, Steps p.tables e below (s₁.setTop (mkF m 0 #[.val (.ref a1), .val (.int p2), .val (.int p3), .unset, .unset, .unset, .unset, .unset] [])) tq → Steps p.tables e below (s₁.setTop (entryFrame m #[(.ref a1), (.int p2), (.int p3)] 8)) tq := fun tq kq => castTop (ef_3 m a1 p2 p3) kq
  have pre1 : ∀ tq, Steps p.tables e below (s₁.setTop (mkF m 2 #[.val (.ref a1), .val (.int p2), .val (.int p3), .unset, .unset, .unset, .unset, .unset] [(.int p2), (.ref a1)])) tq → Steps p.tables e below (s₁.setTop (entryFrame m #[(.ref a1), (.int p2), (.int p3)] 8)) tq := by
    refine fun tq kq => pre0 tq ?_
    show Steps p.tables e below (s₁.setTop (mkF m 0 #[.val (.ref a1), .val (.int p2), .val (.int p3), .unset, .unset, .unset, .unset, .unset] [])) _
    refine XS.aloadN X0.here hx rfl (hb hby d3_0) rfl rfl ?_
    show Steps p.tables e below (s₁.setTop (mkF m 1 #[.val (.ref a1), .val (.int p2), .val (.int p3), .unset, .unset, .unset, .unset, .unset] [(.ref a1)])) _
    refine XS.iloadN X0.here hx rfl (hb hby d3_1) rfl ?_
    exact kq
  have Vc2 := V_a1
  obtain ⟨cl2, Ar2, Aq2, As2, An2, Ah2, Ag2⟩ := Vc2
  have hin2 : ¬ (p2 < 0 ∨ cl2.slots.size ≤ (p2).toNatClampNeg) := inb_of As2 (own_in0 hbd.1 hbd.2)
  have pre3 : ∀ tq, Steps p.tables e below (s₁.setTop (mkF m 3 #[.val (.ref a1), .val (.int p2), .val (.int p3), .unset, .unset, .unset, .unset, .unset] [(.int y0)])) tq → Steps p.tables e below (s₁.setTop (entryFrame m #[(.ref a1), (.int p2), (.int p3)] 8)) tq := fun tq kq => pre1 tq (X0.baloadBytes hx (j := p2) (v := (.int y0)) (by rw [e0]; exact Ar2.1) (State.isArrayOf_alike hZ.alike Ar2.2.1) Ar2.2.2 hin2 (Has.at Ah2 hin2 hat0) (g := (mkF m 2 #[.val (.ref a1), .val (.int p2), .val (.int p3), .unset, .unset, .unset, .unset, .unset] [(.int p2), (.ref a1)])) rfl rfl (hb hby d3_2) _ kq)
  obtain ⟨v5, hv_v5, pre4⟩ : ∃ v5 : Int32, v5 = (y0 &&& (255 : Int32)) ∧ (∀ tq, Steps p.tables e below (s₁.setTop (mkF m 8 #[.val (.ref a1), .val (.int p2), .val (.int p3), .val (.int v5), .unset, .unset, .unset, .unset] [])) tq → Steps p.tables e below (s₁.setTop (entryFrame m #[(.ref a1), (.int p2), (.int p3)] 8)) tq) := by
    refine ⟨_, rfl, fun tq kq => pre3 tq ?_⟩
    show Steps p.tables e below (s₁.setTop (mkF m 3 #[.val (.ref a1), .val (.int p2), .val (.int p3), .unset, .unset, .unset, .unset, .unset] [(.int y0)])) _
    refine XS.sipush X0.here hx rfl (hb hby d3_3) ?_
    show Steps p.tables e below (s₁.setTop (mkF m 6 #[.val (.ref a1), .val (.int p2), .val (.int p3), .unset, .unset, .unset, .unset, .unset] [(.int (255 : Int32)), (.int y0)])) _
    refine XS.iand X0.here hx rfl (hb hby d3_6) rfl ?_
    show Steps p.tables e below (s₁.setTop (mkF m 7 #[.val (.ref a1), .val (.int p2), .val (.int p3), .unset, .unset, .unset, .unset, .unset] [(.int (y0 &&& (255 : Int32)))])) _
    refine XS.istoreN X0.here hx rfl (hb hby d3_7) rfl (l' := #[.val (.ref a1), .val (.int p2), .val (.int p3), .val (.int (y0 &&& (255 : Int32))), .unset, .unset, .unset, .unset]) rfl ?_
    exact kq
  obtain ⟨v6, hj7, pre7⟩ : ∃ v6 : Int32, ((v5 = (224 : Int32) ∧ v6 = (160 : Int32)) ∨ (¬ (v5 = (224 : Int32)) ∧ v5 = (240 : Int32) ∧ v6 = (144 : Int32)) ∨ (¬ (v5 = (224 : Int32)) ∧ ¬ (v5 = (240 : Int32)) ∧ v6 = (128 : Int32))) ∧ (∀ tq, Steps p.tables e below (s₁.setTop (mkF m 37 #[.val (.ref a1), .val (.int p2), .val (.int p3), .val (.int v5), .unset, .unset, .unset, .unset] [(.int v6)])) tq → Steps p.tables e below (s₁.setTop (entryFrame m #[(.ref a1), (.int p2), (.int p3)] 8)) tq) := by
    by_cases hb0_12 : v5 = (224 : Int32)
    · skip
      refine ⟨(160 : Int32), Or.inl (⟨hb0_12, rfl⟩), fun tq kq => pre4 tq ?_⟩
      show Steps p.tables e below (s₁.setTop (mkF m 8 #[.val (.ref a1), .val (.int p2), .val (.int p3), .val (.int v5), .unset, .unset, .unset, .unset] [])) _
      refine XS.iloadN X0.here hx rfl (hb hby d3_8) rfl ?_
      show Steps p.tables e below (s₁.setTop (mkF m 9 #[.val (.ref a1), .val (.int p2), .val (.int p3), .val (.int v5), .unset, .unset, .unset, .unset] [(.int v5)])) _
      refine XS.sipush X0.here hx rfl (hb hby d3_9) ?_
      show Steps p.tables e below (s₁.setTop (mkF m 12 #[.val (.ref a1), .val (.int p2), .val (.int p3), .val (.int v5), .unset, .unset, .unset, .unset] [(.int (224 : Int32)), (.int v5)])) _
      refine XS.icmpNo X0.here hx rfl (hb hby d3_12) rfl (teq hb0_12).2 ?_
      show Steps p.tables e below (s₁.setTop (mkF m 15 #[.val (.ref a1), .val (.int p2), .val (.int p3), .val (.int v5), .unset, .unset, .unset, .unset] [])) _
      refine XS.sipush X0.here hx rfl (hb hby d3_15) ?_
      show Steps p.tables e below (s₁.setTop (mkF m 18 #[.val (.ref a1), .val (.int p2), .val (.int p3), .val (.int v5), .unset, .unset, .unset, .unset] [(.int (160 : Int32))])) _
      refine XS.goto X0.here hx rfl (pc0 := 18) (pc' := 37) rfl (hb hby d3_18) (by decide) (by decide) ?_
      exact kq
    · skip
      by_cases hb1_25 : v5 = (240 : Int32)
      · skip
        refine ⟨(144 : Int32), Or.inr (Or.inl (⟨hb0_12, hb1_25, rfl⟩)), fun tq kq => pre4 tq ?_⟩
        show Steps p.tables e below (s₁.setTop (mkF m 8 #[.val (.ref a1), .val (.int p2), .val (.int p3), .val (.int v5), .unset, .unset, .unset, .unset] [])) _
        refine XS.iloadN X0.here hx rfl (hb hby d3_8) rfl ?_
        show Steps p.tables e below (s₁.setTop (mkF m 9 #[.val (.ref a1), .val (.int p2), .val (.int p3), .val (.int v5), .unset, .unset, .unset, .unset] [(.int v5)])) _
        refine XS.sipush X0.here hx rfl (hb hby d3_9) ?_
        show Steps p.tables e below (s₁.setTop (mkF m 12 #[.val (.ref a1), .val (.int p2), .val (.int p3), .val (.int v5), .unset, .unset, .unset, .unset] [(.int (224 : Int32)), (.int v5)])) _
        refine XS.icmpYes X0.here hx rfl (pc0 := 12) (pc' := 21) rfl (hb hby d3_12) rfl (feq hb0_12).2 (by decide) (by decide) ?_
        show Steps p.tables e below (s₁.setTop (mkF m 21 #[.val (.ref a1), .val (.int p2), .val (.int p3), .val (.int v5), .unset, .unset, .unset, .unset] [])) _
        refine XS.iloadN X0.here hx rfl (hb hby d3_21) rfl ?_
        show Steps p.tables e below (s₁.setTop (mkF m 22 #[.val (.ref a1), .val (.int p2), .val (.int p3), .val (.int v5), .unset, .unset, .unset, .unset] [(.int v5)])) _
        refine XS.sipush X0.here hx rfl (hb hby d3_22) ?_
        show Steps p.tables e below (s₁.setTop (mkF m 25 #[.val (.ref a1), .val (.int p2), .val (.int p3), .val (.int v5), .unset, .unset, .unset, .unset] [(.int (240 : Int32)), (.int v5)])) _
        refine XS.icmpNo X0.here hx rfl (hb hby d3_25) rfl (teq hb1_25).2 ?_
        show Steps p.tables e below (s₁.setTop (mkF m 28 #[.val (.ref a1), .val (.int p2), .val (.int p3), .val (.int v5), .unset, .unset, .unset, .unset] [])) _
        refine XS.sipush X0.here hx rfl (hb hby d3_28) ?_
        show Steps p.tables e below (s₁.setTop (mkF m 31 #[.val (.ref a1), .val (.int p2), .val (.int p3), .val (.int v5), .unset, .unset, .unset, .unset] [(.int (144 : Int32))])) _
        refine XS.goto X0.here hx rfl (pc0 := 31) (pc' := 37) rfl (hb hby d3_31) (by decide) (by decide) ?_
        exact kq
      · skip
        refine ⟨(128 : Int32), Or.inr (Or.inr (⟨hb0_12, hb1_25, rfl⟩)), fun tq kq => pre4 tq ?_⟩
        show Steps p.tables e below (s₁.setTop (mkF m 8 #[.val (.ref a1), .val (.int p2), .val (.int p3), .val (.int v5), .unset, .unset, .unset, .unset] [])) _
        refine XS.iloadN X0.here hx rfl (hb hby d3_8) rfl ?_
        show Steps p.tables e below (s₁.setTop (mkF m 9 #[.val (.ref a1), .val (.int p2), .val (.int p3), .val (.int v5), .unset, .unset, .unset, .unset] [(.int v5)])) _
        refine XS.sipush X0.here hx rfl (hb hby d3_9) ?_
        show Steps p.tables e below (s₁.setTop (mkF m 12 #[.val (.ref a1), .val (.int p2), .val (.int p3), .val (.int v5), .unset, .unset, .unset, .unset] [(.int (224 : Int32)), (.int v5)])) _
        refine XS.icmpYes X0.here hx rfl (pc0 := 12) (pc' := 21) rfl (hb hby d3_12) rfl (feq hb0_12).2 (by decide) (by decide) ?_
        show Steps p.tables e below (s₁.setTop (mkF m 21 #[.val (.ref a1), .val (.int p2), .val (.int p3), .val (.int v5), .unset, .unset, .unset, .unset] [])) _
        refine XS.iloadN X0.here hx rfl (hb hby d3_21) rfl ?_
        show Steps p.tables e below (s₁.setTop (mkF m 22 #[.val (.ref a1), .val (.int p2), .val (.int p3), .val (.int v5), .unset, .unset, .unset, .unset] [(.int v5)])) _
        refine XS.sipush X0.here hx rfl (hb hby d3_22) ?_
        show Steps p.tables e below (s₁.setTop (mkF m 25 #[.val (.ref a1), .val (.int p2), .val (.int p3), .val (.int v5), .unset, .unset, .unset, .unset] [(.int (240 : Int32)), (.int v5)])) _
        refine XS.icmpYes X0.here hx rfl (pc0 := 25) (pc' := 34) rfl (hb hby d3_25) rfl (feq hb1_25).2 (by decide) (by decide) ?_
        show Steps p.tables e below (s₁.setTop (mkF m 34 #[.val (.ref a1), .val (.int p2), .val (.int p3), .val (.int v5), .unset, .unset, .unset, .unset] [])) _
        refine XS.sipush X0.here hx rfl (hb hby d3_34) ?_
        exact kq
  obtain ⟨v8, hj9, pre9⟩ : ∃ v8 : Int32, ((v5 = (237 : Int32) ∧ v8 = (159 : Int32)) ∨ (¬ (v5 = (237 : Int32)) ∧ v5 = (244 : Int32) ∧ v8 = (143 : Int32)) ∨ (¬ (v5 = (237 : Int32)) ∧ ¬ (v5 = (244 : Int32)) ∧ v8 = (191 : Int32))) ∧ (∀ tq, Steps p.tables e below (s₁.setTop (mkF m 68 #[.val (.ref a1), .val (.int p2), .val (.int p3), .val (.int v5), .val (.int v6), .unset, .unset, .unset] [(.int v8)])) tq → Steps p.tables e below (s₁.setTop (entryFrame m #[(.ref a1), (.int p2), (.int p3)] 8)) tq) := by
    by_cases hb0_43 : v5 = (237 : Int32)
    · skip
      refine ⟨(159 : Int32), Or.inl (⟨hb0_43, rfl⟩), fun tq kq => pre7 tq ?_⟩
      show Steps p.tables e below (s₁.setTop (mkF m 37 #[.val (.ref a1), .val (.int p2), .val (.int p3), .val (.int v5), .unset, .unset, .unset, .unset] [(.int v6)])) _
      refine XS.istore X0.here hx rfl (hb hby d3_37) rfl (l' := #[.val (.ref a1), .val (.int p2), .val (.int p3), .val (.int v5), .val (.int v6), .unset, .unset, .unset]) rfl ?_
      show Steps p.tables e below (s₁.setTop (mkF m 39 #[.val (.ref a1), .val (.int p2), .val (.int p3), .val (.int v5), .val (.int v6), .unset, .unset, .unset] [])) _
      refine XS.iloadN X0.here hx rfl (hb hby d3_39) rfl ?_
      show Steps p.tables e below (s₁.setTop (mkF m 40 #[.val (.ref a1), .val (.int p2), .val (.int p3), .val (.int v5), .val (.int v6), .unset, .unset, .unset] [(.int v5)])) _
      refine XS.sipush X0.here hx rfl (hb hby d3_40) ?_
      show Steps p.tables e below (s₁.setTop (mkF m 43 #[.val (.ref a1), .val (.int p2), .val (.int p3), .val (.int v5), .val (.int v6), .unset, .unset, .unset] [(.int (237 : Int32)), (.int v5)])) _
      refine XS.icmpNo X0.here hx rfl (hb hby d3_43) rfl (teq hb0_43).2 ?_
      show Steps p.tables e below (s₁.setTop (mkF m 46 #[.val (.ref a1), .val (.int p2), .val (.int p3), .val (.int v5), .val (.int v6), .unset, .unset, .unset] [])) _
      refine XS.sipush X0.here hx rfl (hb hby d3_46) ?_
      show Steps p.tables e below (s₁.setTop (mkF m 49 #[.val (.ref a1), .val (.int p2), .val (.int p3), .val (.int v5), .val (.int v6), .unset, .unset, .unset] [(.int (159 : Int32))])) _
      refine XS.goto X0.here hx rfl (pc0 := 49) (pc' := 68) rfl (hb hby d3_49) (by decide) (by decide) ?_
      exact kq
    · skip
      by_cases hb1_56 : v5 = (244 : Int32)
      · skip
        refine ⟨(143 : Int32), Or.inr (Or.inl (⟨hb0_43, hb1_56, rfl⟩)), fun tq kq => pre7 tq ?_⟩
        show Steps p.tables e below (s₁.setTop (mkF m 37 #[.val (.ref a1), .val (.int p2), .val (.int p3), .val (.int v5), .unset, .unset, .unset, .unset] [(.int v6)])) _
        refine XS.istore X0.here hx rfl (hb hby d3_37) rfl (l' := #[.val (.ref a1), .val (.int p2), .val (.int p3), .val (.int v5), .val (.int v6), .unset, .unset, .unset]) rfl ?_
        show Steps p.tables e below (s₁.setTop (mkF m 39 #[.val (.ref a1), .val (.int p2), .val (.int p3), .val (.int v5), .val (.int v6), .unset, .unset, .unset] [])) _
        refine XS.iloadN X0.here hx rfl (hb hby d3_39) rfl ?_
        show Steps p.tables e below (s₁.setTop (mkF m 40 #[.val (.ref a1), .val (.int p2), .val (.int p3), .val (.int v5), .val (.int v6), .unset, .unset, .unset] [(.int v5)])) _
        refine XS.sipush X0.here hx rfl (hb hby d3_40) ?_
        show Steps p.tables e below (s₁.setTop (mkF m 43 #[.val (.ref a1), .val (.int p2), .val (.int p3), .val (.int v5), .val (.int v6), .unset, .unset, .unset] [(.int (237 : Int32)), (.int v5)])) _
        refine XS.icmpYes X0.here hx rfl (pc0 := 43) (pc' := 52) rfl (hb hby d3_43) rfl (feq hb0_43).2 (by decide) (by decide) ?_
        show Steps p.tables e below (s₁.setTop (mkF m 52 #[.val (.ref a1), .val (.int p2), .val (.int p3), .val (.int v5), .val (.int v6), .unset, .unset, .unset] [])) _
        refine XS.iloadN X0.here hx rfl (hb hby d3_52) rfl ?_
        show Steps p.tables e below (s₁.setTop (mkF m 53 #[.val (.ref a1), .val (.int p2), .val (.int p3), .val (.int v5), .val (.int v6), .unset, .unset, .unset] [(.int v5)])) _
        refine XS.sipush X0.here hx rfl (hb hby d3_53) ?_
        show Steps p.tables e below (s₁.setTop (mkF m 56 #[.val (.ref a1), .val (.int p2), .val (.int p3), .val (.int v5), .val (.int v6), .unset, .unset, .unset] [(.int (244 : Int32)), (.int v5)])) _
        refine XS.icmpNo X0.here hx rfl (hb hby d3_56) rfl (teq hb1_56).2 ?_
        show Steps p.tables e below (s₁.setTop (mkF m 59 #[.val (.ref a1), .val (.int p2), .val (.int p3), .val (.int v5), .val (.int v6), .unset, .unset, .unset] [])) _
        refine XS.sipush X0.here hx rfl (hb hby d3_59) ?_
        show Steps p.tables e below (s₁.setTop (mkF m 62 #[.val (.ref a1), .val (.int p2), .val (.int p3), .val (.int v5), .val (.int v6), .unset, .unset, .unset] [(.int (143 : Int32))])) _
        refine XS.goto X0.here hx rfl (pc0 := 62) (pc' := 68) rfl (hb hby d3_62) (by decide) (by decide) ?_
        exact kq
      · skip
        refine ⟨(191 : Int32), Or.inr (Or.inr (⟨hb0_43, hb1_56, rfl⟩)), fun tq kq => pre7 tq ?_⟩
        show Steps p.tables e below (s₁.setTop (mkF m 37 #[.val (.ref a1), .val (.int p2), .val (.int p3), .val (.int v5), .unset, .unset, .unset, .unset] [(.int v6)])) _
        refine XS.istore X0.here hx rfl (hb hby d3_37) rfl (l' := #[.val (.ref a1), .val (.int p2), .val (.int p3), .val (.int v5), .val (.int v6), .unset, .unset, .unset]) rfl ?_
        show Steps p.tables e below (s₁.setTop (mkF m 39 #[.val (.ref a1), .val (.int p2), .val (.int p3), .val (.int v5), .val (.int v6), .unset, .unset, .unset] [])) _
        refine XS.iloadN X0.here hx rfl (hb hby d3_39) rfl ?_
        show Steps p.tables e below (s₁.setTop (mkF m 40 #[.val (.ref a1), .val (.int p2), .val (.int p3), .val (.int v5), .val (.int v6), .unset, .unset, .unset] [(.int v5)])) _
        refine XS.sipush X0.here hx rfl (hb hby d3_40) ?_
        show Steps p.tables e below (s₁.setTop (mkF m 43 #[.val (.ref a1), .val (.int p2), .val (.int p3), .val (.int v5), .val (.int v6), .unset, .unset, .unset] [(.int (237 : Int32)), (.int v5)])) _
        refine XS.icmpYes X0.here hx rfl (pc0 := 43) (pc' := 52) rfl (hb hby d3_43) rfl (feq hb0_43).2 (by decide) (by decide) ?_
        show Steps p.tables e below (s₁.setTop (mkF m 52 #[.val (.ref a1), .val (.int p2), .val (.int p3), .val (.int v5), .val (.int v6), .unset, .unset, .unset] [])) _
        refine XS.iloadN X0.here hx rfl (hb hby d3_52) rfl ?_
        show Steps p.tables e below (s₁.setTop (mkF m 53 #[.val (.ref a1), .val (.int p2), .val (.int p3), .val (.int v5), .val (.int v6), .unset, .unset, .unset] [(.int v5)])) _
        refine XS.sipush X0.here hx rfl (hb hby d3_53) ?_
        show Steps p.tables e below (s₁.setTop (mkF m 56 #[.val (.ref a1), .val (.int p2), .val (.int p3), .val (.int v5), .val (.int v6), .unset, .unset, .unset] [(.int (244 : Int32)), (.int v5)])) _
        refine XS.icmpYes X0.here hx rfl (pc0 := 56) (pc' := 65) rfl (hb hby d3_56) rfl (feq hb1_56).2 (by decide) (by decide) ?_
        show Steps p.tables e below (s₁.setTop (mkF m 65 #[.val (.ref a1), .val (.int p2), .val (.int p3), .val (.int v5), .val (.int v6), .unset, .unset, .unset] [])) _
        refine XS.sipush X0.here hx rfl (hb hby d3_65) ?_
        exact kq
  have pre10 : ∀ tq, Steps p.tables e below (s₁.setTop (mkF m 70 #[.val (.ref a1), .val (.int p2), .val (.int p3), .val (.int v5), .val (.int v6), .val (.int v8), .unset, .unset] [])) tq → Steps p.tables e below (s₁.setTop (entryFrame m #[(.ref a1), (.int p2), (.int p3)] 8)) tq := by
    refine fun tq kq => pre9 tq ?_
    show Steps p.tables e below (s₁.setTop (mkF m 68 #[.val (.ref a1), .val (.int p2), .val (.int p3), .val (.int v5), .val (.int v6), .unset, .unset, .unset] [(.int v8)])) _
    refine XS.istore X0.here hx rfl (hb hby d3_68) rfl (l' := #[.val (.ref a1), .val (.int p2), .val (.int p3), .val (.int v5), .val (.int v6), .val (.int v8), .unset, .unset]) rfl ?_
    exact kq
  have hcs70 : p3 = (2 : Int32) ∨ p3 = (3 : Int32) ∨ p3 = (4 : Int32) := by
    exact hlen
  rcases hcs70 with hk | hk | hk
  · skip
    subst hk
    have pre11 : ∀ tq, Steps p.tables e below (s₁.setTop (mkF m 79 #[.val (.ref a1), .val (.int p2), .val (.int (2 : Int32)), .val (.int v5), .val (.int v6), .val (.int v8), .val (.int (1 : Int32)), .unset] [])) tq → Steps p.tables e below (s₁.setTop (entryFrame m #[(.ref a1), (.int p2), (.int (2 : Int32))] 8)) tq := by
      refine fun tq kq => pre10 tq ?_
      show Steps p.tables e below (s₁.setTop (mkF m 70 #[.val (.ref a1), .val (.int p2), .val (.int (2 : Int32)), .val (.int v5), .val (.int v6), .val (.int v8), .unset, .unset] [])) _
      refine XS.iconst X0.here hx rfl (hb hby d3_70) ?_
      show Steps p.tables e below (s₁.setTop (mkF m 71 #[.val (.ref a1), .val (.int p2), .val (.int (2 : Int32)), .val (.int v5), .val (.int v6), .val (.int v8), .unset, .unset] [(.int (1 : Int32))])) _
      refine XS.istore X0.here hx rfl (hb hby d3_71) rfl (l' := #[.val (.ref a1), .val (.int p2), .val (.int (2 : Int32)), .val (.int v5), .val (.int v6), .val (.int v8), .val (.int (1 : Int32)), .unset]) rfl ?_
      show Steps p.tables e below (s₁.setTop (mkF m 73 #[.val (.ref a1), .val (.int p2), .val (.int (2 : Int32)), .val (.int v5), .val (.int v6), .val (.int v8), .val (.int (1 : Int32)), .unset] [])) _
      refine XS.iload X0.here hx rfl (hb hby d3_73) rfl ?_
      show Steps p.tables e below (s₁.setTop (mkF m 75 #[.val (.ref a1), .val (.int p2), .val (.int (2 : Int32)), .val (.int v5), .val (.int v6), .val (.int v8), .val (.int (1 : Int32)), .unset] [(.int (1 : Int32))])) _
      refine XS.iloadN X0.here hx rfl (hb hby d3_75) rfl ?_
      show Steps p.tables e below (s₁.setTop (mkF m 76 #[.val (.ref a1), .val (.int p2), .val (.int (2 : Int32)), .val (.int v5), .val (.int v6), .val (.int v8), .val (.int (1 : Int32)), .unset] [(.int (2 : Int32)), (.int (1 : Int32))])) _
      refine XS.icmpNo X0.here hx rfl (hb hby d3_76) rfl (tlt (by decide : (1 : Int32) < (2 : Int32))).2.1 ?_
      exact kq
    have pre12 : ∀ tq, Steps p.tables e below (s₁.setTop (mkF m 84 #[.val (.ref a1), .val (.int p2), .val (.int (2 : Int32)), .val (.int v5), .val (.int v6), .val (.int v8), .val (.int (1 : Int32)), .unset] [(.int (p2 + (1 : Int32))), (.ref a1)])) tq → Steps p.tables e below (s₁.setTop (entryFrame m #[(.ref a1), (.int p2), (.int (2 : Int32))] 8)) tq := by
      refine fun tq kq => pre11 tq ?_
      show Steps p.tables e below (s₁.setTop (mkF m 79 #[.val (.ref a1), .val (.int p2), .val (.int (2 : Int32)), .val (.int v5), .val (.int v6), .val (.int v8), .val (.int (1 : Int32)), .unset] [])) _
      refine XS.aloadN X0.here hx rfl (hb hby d3_79) rfl rfl ?_
      show Steps p.tables e below (s₁.setTop (mkF m 80 #[.val (.ref a1), .val (.int p2), .val (.int (2 : Int32)), .val (.int v5), .val (.int v6), .val (.int v8), .val (.int (1 : Int32)), .unset] [(.ref a1)])) _
      refine XS.iloadN X0.here hx rfl (hb hby d3_80) rfl ?_
      show Steps p.tables e below (s₁.setTop (mkF m 81 #[.val (.ref a1), .val (.int p2), .val (.int (2 : Int32)), .val (.int v5), .val (.int v6), .val (.int v8), .val (.int (1 : Int32)), .unset] [(.int p2), (.ref a1)])) _
      refine XS.iload X0.here hx rfl (hb hby d3_81) rfl ?_
      show Steps p.tables e below (s₁.setTop (mkF m 83 #[.val (.ref a1), .val (.int p2), .val (.int (2 : Int32)), .val (.int v5), .val (.int v6), .val (.int v8), .val (.int (1 : Int32)), .unset] [(.int (1 : Int32)), (.int p2), (.ref a1)])) _
      refine XS.iadd X0.here hx rfl (hb hby d3_83) rfl ?_
      exact kq
    have Vc13 := V_a1
    obtain ⟨cl13, Ar13, Aq13, As13, An13, Ah13, Ag13⟩ := Vc13
    have hin13 : ¬ ((p2 + (1 : Int32)) < 0 ∨ cl13.slots.size ≤ ((p2 + (1 : Int32))).toNatClampNeg) := inb_of As13 (own_in hbd.1 hbd.2 (by decide) (by decide))
    have pre14 : ∀ tq, Steps p.tables e below (s₁.setTop (mkF m 85 #[.val (.ref a1), .val (.int p2), .val (.int (2 : Int32)), .val (.int v5), .val (.int v6), .val (.int v8), .val (.int (1 : Int32)), .unset] [(.int y1)])) tq → Steps p.tables e below (s₁.setTop (entryFrame m #[(.ref a1), (.int p2), (.int (2 : Int32))] 8)) tq := fun tq kq => pre12 tq (X0.baloadBytes hx (j := (p2 + (1 : Int32))) (v := (.int y1)) (by rw [e0]; exact Ar13.1) (State.isArrayOf_alike hZ.alike Ar13.2.1) Ar13.2.2 hin13 (Has.at Ah13 hin13 hat1) (g := (mkF m 84 #[.val (.ref a1), .val (.int p2), .val (.int (2 : Int32)), .val (.int v5), .val (.int v6), .val (.int v8), .val (.int (1 : Int32)), .unset] [(.int (p2 + (1 : Int32))), (.ref a1)])) rfl rfl (hb hby d3_84) _ kq)
    obtain ⟨v16, hv_v16, pre15⟩ : ∃ v16 : Int32, v16 = (y1 &&& (255 : Int32)) ∧ (∀ tq, Steps p.tables e below (s₁.setTop (mkF m 91 #[.val (.ref a1), .val (.int p2), .val (.int (2 : Int32)), .val (.int v5), .val (.int v6), .val (.int v8), .val (.int (1 : Int32)), .val (.int v16)] [])) tq → Steps p.tables e below (s₁.setTop (entryFrame m #[(.ref a1), (.int p2), (.int (2 : Int32))] 8)) tq) := by
      refine ⟨_, rfl, fun tq kq => pre14 tq ?_⟩
      show Steps p.tables e below (s₁.setTop (mkF m 85 #[.val (.ref a1), .val (.int p2), .val (.int (2 : Int32)), .val (.int v5), .val (.int v6), .val (.int v8), .val (.int (1 : Int32)), .unset] [(.int y1)])) _
      refine XS.sipush X0.here hx rfl (hb hby d3_85) ?_
      show Steps p.tables e below (s₁.setTop (mkF m 88 #[.val (.ref a1), .val (.int p2), .val (.int (2 : Int32)), .val (.int v5), .val (.int v6), .val (.int v8), .val (.int (1 : Int32)), .unset] [(.int (255 : Int32)), (.int y1)])) _
      refine XS.iand X0.here hx rfl (hb hby d3_88) rfl ?_
      show Steps p.tables e below (s₁.setTop (mkF m 89 #[.val (.ref a1), .val (.int p2), .val (.int (2 : Int32)), .val (.int v5), .val (.int v6), .val (.int v8), .val (.int (1 : Int32)), .unset] [(.int (y1 &&& (255 : Int32)))])) _
      refine XS.istore X0.here hx rfl (hb hby d3_89) rfl (l' := #[.val (.ref a1), .val (.int p2), .val (.int (2 : Int32)), .val (.int v5), .val (.int v6), .val (.int v8), .val (.int (1 : Int32)), .val (.int (y1 &&& (255 : Int32)))]) rfl ?_
      exact kq
    have pre17 : ∀ tq, Steps p.tables e below (s₁.setTop (mkF m 95 #[.val (.ref a1), .val (.int p2), .val (.int (2 : Int32)), .val (.int v5), .val (.int v6), .val (.int v8), .val (.int (1 : Int32)), .val (.int v16)] [(.int v6), (.int v16)])) tq → Steps p.tables e below (s₁.setTop (entryFrame m #[(.ref a1), (.int p2), (.int (2 : Int32))] 8)) tq := by
      refine fun tq kq => pre15 tq ?_
      show Steps p.tables e below (s₁.setTop (mkF m 91 #[.val (.ref a1), .val (.int p2), .val (.int (2 : Int32)), .val (.int v5), .val (.int v6), .val (.int v8), .val (.int (1 : Int32)), .val (.int v16)] [])) _
      refine XS.iload X0.here hx rfl (hb hby d3_91) rfl ?_
      show Steps p.tables e below (s₁.setTop (mkF m 93 #[.val (.ref a1), .val (.int p2), .val (.int (2 : Int32)), .val (.int v5), .val (.int v6), .val (.int v8), .val (.int (1 : Int32)), .val (.int v16)] [(.int v16)])) _
      refine XS.iload X0.here hx rfl (hb hby d3_93) rfl ?_
      exact kq
    by_cases hc95 : v16 < v6
    · skip
      have pre18 : ∀ tq, Steps p.tables e below (s₁.setTop (mkF m 105 #[.val (.ref a1), .val (.int p2), .val (.int (2 : Int32)), .val (.int v5), .val (.int v6), .val (.int v8), .val (.int (1 : Int32)), .val (.int v16)] [])) tq → Steps p.tables e below (s₁.setTop (entryFrame m #[(.ref a1), (.int p2), (.int (2 : Int32))] 8)) tq := by
        refine fun tq kq => pre17 tq ?_
        show Steps p.tables e below (s₁.setTop (mkF m 95 #[.val (.ref a1), .val (.int p2), .val (.int (2 : Int32)), .val (.int v5), .val (.int v6), .val (.int v8), .val (.int (1 : Int32)), .val (.int v16)] [(.int v6), (.int v16)])) _
        refine XS.icmpYes X0.here hx rfl (pc0 := 95) (pc' := 105) rfl (hb hby d3_95) rfl (tlt hc95).1 (by decide) (by decide) ?_
        exact kq
      obtain ⟨fs, hr, hrun, hended, hW, hsame⟩ := X0.leave (v := some (.int (0 : Int32))) (fun h => by rw [Bd.returns] at h; cases h)
      refine ⟨_, _, pre18 _ ?_, hrun, hended, _, _, rfl, ?_, ⟨_, rfl⟩, hW, hsame.mono (by decide) (by decide)⟩
      · skip
        show Steps p.tables e below (s₁.setTop (mkF m 105 #[.val (.ref a1), .val (.int p2), .val (.int (2 : Int32)), .val (.int v5), .val (.int v6), .val (.int v8), .val (.int (1 : Int32)), .val (.int v16)] [])) _
        refine XS.iconst X0.here hx rfl (hb hby d3_105) ?_
        show Steps p.tables e below (s₁.setTop (mkF m 106 #[.val (.ref a1), .val (.int p2), .val (.int (2 : Int32)), .val (.int v5), .val (.int v6), .val (.int v8), .val (.int (1 : Int32)), .val (.int v16)] [(.int (0 : Int32))])) _
        exact retN X0 hx (t := .boolean) Bd.returns (by simp) (hb hby d3_106) hr
      · show Q3 Z a1 p2 (2 : Int32) k vs dv y0 y1 y2 y3 h0 n0 _ s₁.heap _
        rw [e0]
        refine ⟨(0 : Int32), rfl, N0, rfl, ?_⟩
        simp only [Int32.lt_iff_toInt_lt, ← Int32.toInt_inj, Int32.reduceToInt, true_and, and_true, false_and, and_false, or_false, false_or, not_true_eq_false, not_false_eq_true, true_implies, false_implies] at hv_v5 hj7 hj9 hv_v16 hc95 ⊢ <;> omega
    · skip
      have pre19 : ∀ tq, Steps p.tables e below (s₁.setTop (mkF m 98 #[.val (.ref a1), .val (.int p2), .val (.int (2 : Int32)), .val (.int v5), .val (.int v6), .val (.int v8), .val (.int (1 : Int32)), .val (.int v16)] [])) tq → Steps p.tables e below (s₁.setTop (entryFrame m #[(.ref a1), (.int p2), (.int (2 : Int32))] 8)) tq := by
        refine fun tq kq => pre17 tq ?_
        show Steps p.tables e below (s₁.setTop (mkF m 95 #[.val (.ref a1), .val (.int p2), .val (.int (2 : Int32)), .val (.int v5), .val (.int v6), .val (.int v8), .val (.int (1 : Int32)), .val (.int v16)] [(.int v6), (.int v16)])) _
        refine XS.icmpNo X0.here hx rfl (hb hby d3_95) rfl (flt hc95).1 ?_
        exact kq
      have pre20 : ∀ tq, Steps p.tables e below (s₁.setTop (mkF m 102 #[.val (.ref a1), .val (.int p2), .val (.int (2 : Int32)), .val (.int v5), .val (.int v6), .val (.int v8), .val (.int (1 : Int32)), .val (.int v16)] [(.int v8), (.int v16)])) tq → Steps p.tables e below (s₁.setTop (entryFrame m #[(.ref a1), (.int p2), (.int (2 : Int32))] 8)) tq := by
        refine fun tq kq => pre19 tq ?_
        show Steps p.tables e below (s₁.setTop (mkF m 98 #[.val (.ref a1), .val (.int p2), .val (.int (2 : Int32)), .val (.int v5), .val (.int v6), .val (.int v8), .val (.int (1 : Int32)), .val (.int v16)] [])) _
        refine XS.iload X0.here hx rfl (hb hby d3_98) rfl ?_
        show Steps p.tables e below (s₁.setTop (mkF m 100 #[.val (.ref a1), .val (.int p2), .val (.int (2 : Int32)), .val (.int v5), .val (.int v6), .val (.int v8), .val (.int (1 : Int32)), .val (.int v16)] [(.int v16)])) _
        refine XS.iload X0.here hx rfl (hb hby d3_100) rfl ?_
        exact kq
      by_cases hc102 : v8 < v16
      · skip
        have pre21 : ∀ tq, Steps p.tables e below (s₁.setTop (mkF m 105 #[.val (.ref a1), .val (.int p2), .val (.int (2 : Int32)), .val (.int v5), .val (.int v6), .val (.int v8), .val (.int (1 : Int32)), .val (.int v16)] [])) tq → Steps p.tables e below (s₁.setTop (entryFrame m #[(.ref a1), (.int p2), (.int (2 : Int32))] 8)) tq := by
          refine fun tq kq => pre20 tq ?_
          show Steps p.tables e below (s₁.setTop (mkF m 102 #[.val (.ref a1), .val (.int p2), .val (.int (2 : Int32)), .val (.int v5), .val (.int v6), .val (.int v8), .val (.int (1 : Int32)), .val (.int v16)] [(.int v8), (.int v16)])) _
          refine XS.icmpNo X0.here hx rfl (hb hby d3_102) rfl (tlt hc102).2.2.2 ?_
          exact kq
        obtain ⟨fs, hr, hrun, hended, hW, hsame⟩ := X0.leave (v := some (.int (0 : Int32))) (fun h => by rw [Bd.returns] at h; cases h)
        refine ⟨_, _, pre21 _ ?_, hrun, hended, _, _, rfl, ?_, ⟨_, rfl⟩, hW, hsame.mono (by decide) (by decide)⟩
        · skip
          show Steps p.tables e below (s₁.setTop (mkF m 105 #[.val (.ref a1), .val (.int p2), .val (.int (2 : Int32)), .val (.int v5), .val (.int v6), .val (.int v8), .val (.int (1 : Int32)), .val (.int v16)] [])) _
          refine XS.iconst X0.here hx rfl (hb hby d3_105) ?_
          show Steps p.tables e below (s₁.setTop (mkF m 106 #[.val (.ref a1), .val (.int p2), .val (.int (2 : Int32)), .val (.int v5), .val (.int v6), .val (.int v8), .val (.int (1 : Int32)), .val (.int v16)] [(.int (0 : Int32))])) _
          exact retN X0 hx (t := .boolean) Bd.returns (by simp) (hb hby d3_106) hr
        · show Q3 Z a1 p2 (2 : Int32) k vs dv y0 y1 y2 y3 h0 n0 _ s₁.heap _
          rw [e0]
          refine ⟨(0 : Int32), rfl, N0, rfl, ?_⟩
          simp only [Int32.lt_iff_toInt_lt, ← Int32.toInt_inj, Int32.reduceToInt, true_and, and_true, false_and, and_false, or_false, false_or, not_true_eq_false, not_false_eq_true, true_implies, false_implies] at hv_v5 hj7 hj9 hv_v16 hc95 hc102 ⊢ <;> omega
      · skip
        have pre22 : ∀ tq, Steps p.tables e below (s₁.setTop (mkF m 107 #[.val (.ref a1), .val (.int p2), .val (.int (2 : Int32)), .val (.int v5), .val (.int v6), .val (.int v8), .val (.int (1 : Int32)), .val (.int v16)] [])) tq → Steps p.tables e below (s₁.setTop (entryFrame m #[(.ref a1), (.int p2), (.int (2 : Int32))] 8)) tq := by
          refine fun tq kq => pre20 tq ?_
          show Steps p.tables e below (s₁.setTop (mkF m 102 #[.val (.ref a1), .val (.int p2), .val (.int (2 : Int32)), .val (.int v5), .val (.int v6), .val (.int v8), .val (.int (1 : Int32)), .val (.int v16)] [(.int v8), (.int v16)])) _
          refine XS.icmpYes X0.here hx rfl (pc0 := 102) (pc' := 107) rfl (hb hby d3_102) rfl (flt hc102).2.2.2 (by decide) (by decide) ?_
          exact kq
        have pre23 : ∀ tq, Steps p.tables e below (s₁.setTop (mkF m 123 #[.val (.ref a1), .val (.int p2), .val (.int (2 : Int32)), .val (.int v5), .val (.int (128 : Int32)), .val (.int (191 : Int32)), .val (.int (2 : Int32)), .val (.int v16)] [])) tq → Steps p.tables e below (s₁.setTop (entryFrame m #[(.ref a1), (.int p2), (.int (2 : Int32))] 8)) tq := by
          refine fun tq kq => pre22 tq ?_
          show Steps p.tables e below (s₁.setTop (mkF m 107 #[.val (.ref a1), .val (.int p2), .val (.int (2 : Int32)), .val (.int v5), .val (.int v6), .val (.int v8), .val (.int (1 : Int32)), .val (.int v16)] [])) _
          refine XS.sipush X0.here hx rfl (hb hby d3_107) ?_
          show Steps p.tables e below (s₁.setTop (mkF m 110 #[.val (.ref a1), .val (.int p2), .val (.int (2 : Int32)), .val (.int v5), .val (.int v6), .val (.int v8), .val (.int (1 : Int32)), .val (.int v16)] [(.int (128 : Int32))])) _
          refine XS.istore X0.here hx rfl (hb hby d3_110) rfl (l' := #[.val (.ref a1), .val (.int p2), .val (.int (2 : Int32)), .val (.int v5), .val (.int (128 : Int32)), .val (.int v8), .val (.int (1 : Int32)), .val (.int v16)]) rfl ?_
          show Steps p.tables e below (s₁.setTop (mkF m 112 #[.val (.ref a1), .val (.int p2), .val (.int (2 : Int32)), .val (.int v5), .val (.int (128 : Int32)), .val (.int v8), .val (.int (1 : Int32)), .val (.int v16)] [])) _
          refine XS.sipush X0.here hx rfl (hb hby d3_112) ?_
          show Steps p.tables e below (s₁.setTop (mkF m 115 #[.val (.ref a1), .val (.int p2), .val (.int (2 : Int32)), .val (.int v5), .val (.int (128 : Int32)), .val (.int v8), .val (.int (1 : Int32)), .val (.int v16)] [(.int (191 : Int32))])) _
          refine XS.istore X0.here hx rfl (hb hby d3_115) rfl (l' := #[.val (.ref a1), .val (.int p2), .val (.int (2 : Int32)), .val (.int v5), .val (.int (128 : Int32)), .val (.int (191 : Int32)), .val (.int (1 : Int32)), .val (.int v16)]) rfl ?_
          show Steps p.tables e below (s₁.setTop (mkF m 117 #[.val (.ref a1), .val (.int p2), .val (.int (2 : Int32)), .val (.int v5), .val (.int (128 : Int32)), .val (.int (191 : Int32)), .val (.int (1 : Int32)), .val (.int v16)] [])) _
          refine XS.iinc X0.here hx rfl (hb hby d3_117) rfl (l' := #[.val (.ref a1), .val (.int p2), .val (.int (2 : Int32)), .val (.int v5), .val (.int (128 : Int32)), .val (.int (191 : Int32)), .val (.int (2 : Int32)), .val (.int v16)]) rfl ?_
          show Steps p.tables e below (s₁.setTop (mkF m 120 #[.val (.ref a1), .val (.int p2), .val (.int (2 : Int32)), .val (.int v5), .val (.int (128 : Int32)), .val (.int (191 : Int32)), .val (.int (2 : Int32)), .val (.int v16)] [])) _
          refine XS.goto X0.here hx rfl (pc0 := 120) (pc' := 73) rfl (hb hby d3_120) (by decide) (by decide) ?_
          show Steps p.tables e below (s₁.setTop (mkF m 73 #[.val (.ref a1), .val (.int p2), .val (.int (2 : Int32)), .val (.int v5), .val (.int (128 : Int32)), .val (.int (191 : Int32)), .val (.int (2 : Int32)), .val (.int v16)] [])) _
          refine XS.iload X0.here hx rfl (hb hby d3_73) rfl ?_
          show Steps p.tables e below (s₁.setTop (mkF m 75 #[.val (.ref a1), .val (.int p2), .val (.int (2 : Int32)), .val (.int v5), .val (.int (128 : Int32)), .val (.int (191 : Int32)), .val (.int (2 : Int32)), .val (.int v16)] [(.int (2 : Int32))])) _
          refine XS.iloadN X0.here hx rfl (hb hby d3_75) rfl ?_
          show Steps p.tables e below (s₁.setTop (mkF m 76 #[.val (.ref a1), .val (.int p2), .val (.int (2 : Int32)), .val (.int v5), .val (.int (128 : Int32)), .val (.int (191 : Int32)), .val (.int (2 : Int32)), .val (.int v16)] [(.int (2 : Int32)), (.int (2 : Int32))])) _
          refine XS.icmpYes X0.here hx rfl (pc0 := 76) (pc' := 123) rfl (hb hby d3_76) rfl (flt (by decide : ¬ ((2 : Int32) < (2 : Int32)))).2.1 (by decide) (by decide) ?_
          exact kq
        obtain ⟨fs, hr, hrun, hended, hW, hsame⟩ := X0.leave (v := some (.int (1 : Int32))) (fun h => by rw [Bd.returns] at h; cases h)
        refine ⟨_, _, pre23 _ ?_, hrun, hended, _, _, rfl, ?_, ⟨_, rfl⟩, hW, hsame.mono (by decide) (by decide)⟩
        · skip
          show Steps p.tables e below (s₁.setTop (mkF m 123 #[.val (.ref a1), .val (.int p2), .val (.int (2 : Int32)), .val (.int v5), .val (.int (128 : Int32)), .val (.int (191 : Int32)), .val (.int (2 : Int32)), .val (.int v16)] [])) _
          refine XS.iconst X0.here hx rfl (hb hby d3_123) ?_
          show Steps p.tables e below (s₁.setTop (mkF m 124 #[.val (.ref a1), .val (.int p2), .val (.int (2 : Int32)), .val (.int v5), .val (.int (128 : Int32)), .val (.int (191 : Int32)), .val (.int (2 : Int32)), .val (.int v16)] [(.int (1 : Int32))])) _
          exact retN X0 hx (t := .boolean) Bd.returns (by simp) (hb hby d3_124) hr
        · show Q3 Z a1 p2 (2 : Int32) k vs dv y0 y1 y2 y3 h0 n0 _ s₁.heap _
          rw [e0]
          refine ⟨(1 : Int32), rfl, N0, rfl, ?_⟩
          simp only [Int32.lt_iff_toInt_lt, ← Int32.toInt_inj, Int32.reduceToInt, true_and, and_true, false_and, and_false, or_false, false_or, not_true_eq_false, not_false_eq_true, true_implies, false_implies] at hv_v5 hj7 hj9 hv_v16 hc95 hc102 ⊢ <;> omega
  · skip
    subst hk
    have pre24 : ∀ tq, Steps p.tables e below (s₁.setTop (mkF m 79 #[.val (.ref a1), .val (.int p2), .val (.int (3 : Int32)), .val (.int v5), .val (.int v6), .val (.int v8), .val (.int (1 : Int32)), .unset] [])) tq → Steps p.tables e below (s₁.setTop (entryFrame m #[(.ref a1), (.int p2), (.int (3 : Int32))] 8)) tq := by
      refine fun tq kq => pre10 tq ?_
      show Steps p.tables e below (s₁.setTop (mkF m 70 #[.val (.ref a1), .val (.int p2), .val (.int (3 : Int32)), .val (.int v5), .val (.int v6), .val (.int v8), .unset, .unset] [])) _
      refine XS.iconst X0.here hx rfl (hb hby d3_70) ?_
      show Steps p.tables e below (s₁.setTop (mkF m 71 #[.val (.ref a1), .val (.int p2), .val (.int (3 : Int32)), .val (.int v5), .val (.int v6), .val (.int v8), .unset, .unset] [(.int (1 : Int32))])) _
      refine XS.istore X0.here hx rfl (hb hby d3_71) rfl (l' := #[.val (.ref a1), .val (.int p2), .val (.int (3 : Int32)), .val (.int v5), .val (.int v6), .val (.int v8), .val (.int (1 : Int32)), .unset]) rfl ?_
      show Steps p.tables e below (s₁.setTop (mkF m 73 #[.val (.ref a1), .val (.int p2), .val (.int (3 : Int32)), .val (.int v5), .val (.int v6), .val (.int v8), .val (.int (1 : Int32)), .unset] [])) _
      refine XS.iload X0.here hx rfl (hb hby d3_73) rfl ?_
      show Steps p.tables e below (s₁.setTop (mkF m 75 #[.val (.ref a1), .val (.int p2), .val (.int (3 : Int32)), .val (.int v5), .val (.int v6), .val (.int v8), .val (.int (1 : Int32)), .unset] [(.int (1 : Int32))])) _
      refine XS.iloadN X0.here hx rfl (hb hby d3_75) rfl ?_
      show Steps p.tables e below (s₁.setTop (mkF m 76 #[.val (.ref a1), .val (.int p2), .val (.int (3 : Int32)), .val (.int v5), .val (.int v6), .val (.int v8), .val (.int (1 : Int32)), .unset] [(.int (3 : Int32)), (.int (1 : Int32))])) _
      refine XS.icmpNo X0.here hx rfl (hb hby d3_76) rfl (tlt (by decide : (1 : Int32) < (3 : Int32))).2.1 ?_
      exact kq
    have pre25 : ∀ tq, Steps p.tables e below (s₁.setTop (mkF m 84 #[.val (.ref a1), .val (.int p2), .val (.int (3 : Int32)), .val (.int v5), .val (.int v6), .val (.int v8), .val (.int (1 : Int32)), .unset] [(.int (p2 + (1 : Int32))), (.ref a1)])) tq → Steps p.tables e below (s₁.setTop (entryFrame m #[(.ref a1), (.int p2), (.int (3 : Int32))] 8)) tq := by
      refine fun tq kq => pre24 tq ?_
      show Steps p.tables e below (s₁.setTop (mkF m 79 #[.val (.ref a1), .val (.int p2), .val (.int (3 : Int32)), .val (.int v5), .val (.int v6), .val (.int v8), .val (.int (1 : Int32)), .unset] [])) _
      refine XS.aloadN X0.here hx rfl (hb hby d3_79) rfl rfl ?_
      show Steps p.tables e below (s₁.setTop (mkF m 80 #[.val (.ref a1), .val (.int p2), .val (.int (3 : Int32)), .val (.int v5), .val (.int v6), .val (.int v8), .val (.int (1 : Int32)), .unset] [(.ref a1)])) _
      refine XS.iloadN X0.here hx rfl (hb hby d3_80) rfl ?_
      show Steps p.tables e below (s₁.setTop (mkF m 81 #[.val (.ref a1), .val (.int p2), .val (.int (3 : Int32)), .val (.int v5), .val (.int v6), .val (.int v8), .val (.int (1 : Int32)), .unset] [(.int p2), (.ref a1)])) _
      refine XS.iload X0.here hx rfl (hb hby d3_81) rfl ?_
      show Steps p.tables e below (s₁.setTop (mkF m 83 #[.val (.ref a1), .val (.int p2), .val (.int (3 : Int32)), .val (.int v5), .val (.int v6), .val (.int v8), .val (.int (1 : Int32)), .unset] [(.int (1 : Int32)), (.int p2), (.ref a1)])) _
      refine XS.iadd X0.here hx rfl (hb hby d3_83) rfl ?_
      exact kq
    have Vc26 := V_a1
    obtain ⟨cl26, Ar26, Aq26, As26, An26, Ah26, Ag26⟩ := Vc26
    have hin26 : ¬ ((p2 + (1 : Int32)) < 0 ∨ cl26.slots.size ≤ ((p2 + (1 : Int32))).toNatClampNeg) := inb_of As26 (own_in hbd.1 hbd.2 (by decide) (by decide))
    have pre27 : ∀ tq, Steps p.tables e below (s₁.setTop (mkF m 85 #[.val (.ref a1), .val (.int p2), .val (.int (3 : Int32)), .val (.int v5), .val (.int v6), .val (.int v8), .val (.int (1 : Int32)), .unset] [(.int y1)])) tq → Steps p.tables e below (s₁.setTop (entryFrame m #[(.ref a1), (.int p2), (.int (3 : Int32))] 8)) tq := fun tq kq => pre25 tq (X0.baloadBytes hx (j := (p2 + (1 : Int32))) (v := (.int y1)) (by rw [e0]; exact Ar26.1) (State.isArrayOf_alike hZ.alike Ar26.2.1) Ar26.2.2 hin26 (Has.at Ah26 hin26 hat1) (g := (mkF m 84 #[.val (.ref a1), .val (.int p2), .val (.int (3 : Int32)), .val (.int v5), .val (.int v6), .val (.int v8), .val (.int (1 : Int32)), .unset] [(.int (p2 + (1 : Int32))), (.ref a1)])) rfl rfl (hb hby d3_84) _ kq)
    obtain ⟨v29, hv_v29, pre28⟩ : ∃ v29 : Int32, v29 = (y1 &&& (255 : Int32)) ∧ (∀ tq, Steps p.tables e below (s₁.setTop (mkF m 91 #[.val (.ref a1), .val (.int p2), .val (.int (3 : Int32)), .val (.int v5), .val (.int v6), .val (.int v8), .val (.int (1 : Int32)), .val (.int v29)] [])) tq → Steps p.tables e below (s₁.setTop (entryFrame m #[(.ref a1), (.int p2), (.int (3 : Int32))] 8)) tq) := by
      refine ⟨_, rfl, fun tq kq => pre27 tq ?_⟩
      show Steps p.tables e below (s₁.setTop (mkF m 85 #[.val (.ref a1), .val (.int p2), .val (.int (3 : Int32)), .val (.int v5), .val (.int v6), .val (.int v8), .val (.int (1 : Int32)), .unset] [(.int y1)])) _
      refine XS.sipush X0.here hx rfl (hb hby d3_85) ?_
      show Steps p.tables e below (s₁.setTop (mkF m 88 #[.val (.ref a1), .val (.int p2), .val (.int (3 : Int32)), .val (.int v5), .val (.int v6), .val (.int v8), .val (.int (1 : Int32)), .unset] [(.int (255 : Int32)), (.int y1)])) _
      refine XS.iand X0.here hx rfl (hb hby d3_88) rfl ?_
      show Steps p.tables e below (s₁.setTop (mkF m 89 #[.val (.ref a1), .val (.int p2), .val (.int (3 : Int32)), .val (.int v5), .val (.int v6), .val (.int v8), .val (.int (1 : Int32)), .unset] [(.int (y1 &&& (255 : Int32)))])) _
      refine XS.istore X0.here hx rfl (hb hby d3_89) rfl (l' := #[.val (.ref a1), .val (.int p2), .val (.int (3 : Int32)), .val (.int v5), .val (.int v6), .val (.int v8), .val (.int (1 : Int32)), .val (.int (y1 &&& (255 : Int32)))]) rfl ?_
      exact kq
    have pre30 : ∀ tq, Steps p.tables e below (s₁.setTop (mkF m 95 #[.val (.ref a1), .val (.int p2), .val (.int (3 : Int32)), .val (.int v5), .val (.int v6), .val (.int v8), .val (.int (1 : Int32)), .val (.int v29)] [(.int v6), (.int v29)])) tq → Steps p.tables e below (s₁.setTop (entryFrame m #[(.ref a1), (.int p2), (.int (3 : Int32))] 8)) tq := by
      refine fun tq kq => pre28 tq ?_
      show Steps p.tables e below (s₁.setTop (mkF m 91 #[.val (.ref a1), .val (.int p2), .val (.int (3 : Int32)), .val (.int v5), .val (.int v6), .val (.int v8), .val (.int (1 : Int32)), .val (.int v29)] [])) _
      refine XS.iload X0.here hx rfl (hb hby d3_91) rfl ?_
      show Steps p.tables e below (s₁.setTop (mkF m 93 #[.val (.ref a1), .val (.int p2), .val (.int (3 : Int32)), .val (.int v5), .val (.int v6), .val (.int v8), .val (.int (1 : Int32)), .val (.int v29)] [(.int v29)])) _
      refine XS.iload X0.here hx rfl (hb hby d3_93) rfl ?_
      exact kq
    by_cases hc95 : v29 < v6
    · skip
      have pre31 : ∀ tq, Steps p.tables e below (s₁.setTop (mkF m 105 #[.val (.ref a1), .val (.int p2), .val (.int (3 : Int32)), .val (.int v5), .val (.int v6), .val (.int v8), .val (.int (1 : Int32)), .val (.int v29)] [])) tq → Steps p.tables e below (s₁.setTop (entryFrame m #[(.ref a1), (.int p2), (.int (3 : Int32))] 8)) tq := by
        refine fun tq kq => pre30 tq ?_
        show Steps p.tables e below (s₁.setTop (mkF m 95 #[.val (.ref a1), .val (.int p2), .val (.int (3 : Int32)), .val (.int v5), .val (.int v6), .val (.int v8), .val (.int (1 : Int32)), .val (.int v29)] [(.int v6), (.int v29)])) _
        refine XS.icmpYes X0.here hx rfl (pc0 := 95) (pc' := 105) rfl (hb hby d3_95) rfl (tlt hc95).1 (by decide) (by decide) ?_
        exact kq
      obtain ⟨fs, hr, hrun, hended, hW, hsame⟩ := X0.leave (v := some (.int (0 : Int32))) (fun h => by rw [Bd.returns] at h; cases h)
      refine ⟨_, _, pre31 _ ?_, hrun, hended, _, _, rfl, ?_, ⟨_, rfl⟩, hW, hsame.mono (by decide) (by decide)⟩
      · skip
        show Steps p.tables e below (s₁.setTop (mkF m 105 #[.val (.ref a1), .val (.int p2), .val (.int (3 : Int32)), .val (.int v5), .val (.int v6), .val (.int v8), .val (.int (1 : Int32)), .val (.int v29)] [])) _
        refine XS.iconst X0.here hx rfl (hb hby d3_105) ?_
        show Steps p.tables e below (s₁.setTop (mkF m 106 #[.val (.ref a1), .val (.int p2), .val (.int (3 : Int32)), .val (.int v5), .val (.int v6), .val (.int v8), .val (.int (1 : Int32)), .val (.int v29)] [(.int (0 : Int32))])) _
        exact retN X0 hx (t := .boolean) Bd.returns (by simp) (hb hby d3_106) hr
      · show Q3 Z a1 p2 (3 : Int32) k vs dv y0 y1 y2 y3 h0 n0 _ s₁.heap _
        rw [e0]
        refine ⟨(0 : Int32), rfl, N0, rfl, ?_⟩
        simp only [Int32.lt_iff_toInt_lt, ← Int32.toInt_inj, Int32.reduceToInt, true_and, and_true, false_and, and_false, or_false, false_or, not_true_eq_false, not_false_eq_true, true_implies, false_implies] at hv_v5 hj7 hj9 hv_v29 hc95 ⊢ <;> omega
    · skip
      have pre32 : ∀ tq, Steps p.tables e below (s₁.setTop (mkF m 98 #[.val (.ref a1), .val (.int p2), .val (.int (3 : Int32)), .val (.int v5), .val (.int v6), .val (.int v8), .val (.int (1 : Int32)), .val (.int v29)] [])) tq → Steps p.tables e below (s₁.setTop (entryFrame m #[(.ref a1), (.int p2), (.int (3 : Int32))] 8)) tq := by
        refine fun tq kq => pre30 tq ?_
        show Steps p.tables e below (s₁.setTop (mkF m 95 #[.val (.ref a1), .val (.int p2), .val (.int (3 : Int32)), .val (.int v5), .val (.int v6), .val (.int v8), .val (.int (1 : Int32)), .val (.int v29)] [(.int v6), (.int v29)])) _
        refine XS.icmpNo X0.here hx rfl (hb hby d3_95) rfl (flt hc95).1 ?_
        exact kq
      have pre33 : ∀ tq, Steps p.tables e below (s₁.setTop (mkF m 102 #[.val (.ref a1), .val (.int p2), .val (.int (3 : Int32)), .val (.int v5), .val (.int v6), .val (.int v8), .val (.int (1 : Int32)), .val (.int v29)] [(.int v8), (.int v29)])) tq → Steps p.tables e below (s₁.setTop (entryFrame m #[(.ref a1), (.int p2), (.int (3 : Int32))] 8)) tq := by
        refine fun tq kq => pre32 tq ?_
        show Steps p.tables e below (s₁.setTop (mkF m 98 #[.val (.ref a1), .val (.int p2), .val (.int (3 : Int32)), .val (.int v5), .val (.int v6), .val (.int v8), .val (.int (1 : Int32)), .val (.int v29)] [])) _
        refine XS.iload X0.here hx rfl (hb hby d3_98) rfl ?_
        show Steps p.tables e below (s₁.setTop (mkF m 100 #[.val (.ref a1), .val (.int p2), .val (.int (3 : Int32)), .val (.int v5), .val (.int v6), .val (.int v8), .val (.int (1 : Int32)), .val (.int v29)] [(.int v29)])) _
        refine XS.iload X0.here hx rfl (hb hby d3_100) rfl ?_
        exact kq
      by_cases hc102 : v8 < v29
      · skip
        have pre34 : ∀ tq, Steps p.tables e below (s₁.setTop (mkF m 105 #[.val (.ref a1), .val (.int p2), .val (.int (3 : Int32)), .val (.int v5), .val (.int v6), .val (.int v8), .val (.int (1 : Int32)), .val (.int v29)] [])) tq → Steps p.tables e below (s₁.setTop (entryFrame m #[(.ref a1), (.int p2), (.int (3 : Int32))] 8)) tq := by
          refine fun tq kq => pre33 tq ?_
          show Steps p.tables e below (s₁.setTop (mkF m 102 #[.val (.ref a1), .val (.int p2), .val (.int (3 : Int32)), .val (.int v5), .val (.int v6), .val (.int v8), .val (.int (1 : Int32)), .val (.int v29)] [(.int v8), (.int v29)])) _
          refine XS.icmpNo X0.here hx rfl (hb hby d3_102) rfl (tlt hc102).2.2.2 ?_
          exact kq
        obtain ⟨fs, hr, hrun, hended, hW, hsame⟩ := X0.leave (v := some (.int (0 : Int32))) (fun h => by rw [Bd.returns] at h; cases h)
        refine ⟨_, _, pre34 _ ?_, hrun, hended, _, _, rfl, ?_, ⟨_, rfl⟩, hW, hsame.mono (by decide) (by decide)⟩
        · skip
          show Steps p.tables e below (s₁.setTop (mkF m 105 #[.val (.ref a1), .val (.int p2), .val (.int (3 : Int32)), .val (.int v5), .val (.int v6), .val (.int v8), .val (.int (1 : Int32)), .val (.int v29)] [])) _
          refine XS.iconst X0.here hx rfl (hb hby d3_105) ?_
          show Steps p.tables e below (s₁.setTop (mkF m 106 #[.val (.ref a1), .val (.int p2), .val (.int (3 : Int32)), .val (.int v5), .val (.int v6), .val (.int v8), .val (.int (1 : Int32)), .val (.int v29)] [(.int (0 : Int32))])) _
          exact retN X0 hx (t := .boolean) Bd.returns (by simp) (hb hby d3_106) hr
        · show Q3 Z a1 p2 (3 : Int32) k vs dv y0 y1 y2 y3 h0 n0 _ s₁.heap _
          rw [e0]
          refine ⟨(0 : Int32), rfl, N0, rfl, ?_⟩
          simp only [Int32.lt_iff_toInt_lt, ← Int32.toInt_inj, Int32.reduceToInt, true_and, and_true, false_and, and_false, or_false, false_or, not_true_eq_false, not_false_eq_true, true_implies, false_implies] at hv_v5 hj7 hj9 hv_v29 hc95 hc102 ⊢ <;> omega
      · skip
        have pre35 : ∀ tq, Steps p.tables e below (s₁.setTop (mkF m 107 #[.val (.ref a1), .val (.int p2), .val (.int (3 : Int32)), .val (.int v5), .val (.int v6), .val (.int v8), .val (.int (1 : Int32)), .val (.int v29)] [])) tq → Steps p.tables e below (s₁.setTop (entryFrame m #[(.ref a1), (.int p2), (.int (3 : Int32))] 8)) tq := by
          refine fun tq kq => pre33 tq ?_
          show Steps p.tables e below (s₁.setTop (mkF m 102 #[.val (.ref a1), .val (.int p2), .val (.int (3 : Int32)), .val (.int v5), .val (.int v6), .val (.int v8), .val (.int (1 : Int32)), .val (.int v29)] [(.int v8), (.int v29)])) _
          refine XS.icmpYes X0.here hx rfl (pc0 := 102) (pc' := 107) rfl (hb hby d3_102) rfl (flt hc102).2.2.2 (by decide) (by decide) ?_
          exact kq
        have pre36 : ∀ tq, Steps p.tables e below (s₁.setTop (mkF m 79 #[.val (.ref a1), .val (.int p2), .val (.int (3 : Int32)), .val (.int v5), .val (.int (128 : Int32)), .val (.int (191 : Int32)), .val (.int (2 : Int32)), .val (.int v29)] [])) tq → Steps p.tables e below (s₁.setTop (entryFrame m #[(.ref a1), (.int p2), (.int (3 : Int32))] 8)) tq := by
          refine fun tq kq => pre35 tq ?_
          show Steps p.tables e below (s₁.setTop (mkF m 107 #[.val (.ref a1), .val (.int p2), .val (.int (3 : Int32)), .val (.int v5), .val (.int v6), .val (.int v8), .val (.int (1 : Int32)), .val (.int v29)] [])) _
          refine XS.sipush X0.here hx rfl (hb hby d3_107) ?_
          show Steps p.tables e below (s₁.setTop (mkF m 110 #[.val (.ref a1), .val (.int p2), .val (.int (3 : Int32)), .val (.int v5), .val (.int v6), .val (.int v8), .val (.int (1 : Int32)), .val (.int v29)] [(.int (128 : Int32))])) _
          refine XS.istore X0.here hx rfl (hb hby d3_110) rfl (l' := #[.val (.ref a1), .val (.int p2), .val (.int (3 : Int32)), .val (.int v5), .val (.int (128 : Int32)), .val (.int v8), .val (.int (1 : Int32)), .val (.int v29)]) rfl ?_
          show Steps p.tables e below (s₁.setTop (mkF m 112 #[.val (.ref a1), .val (.int p2), .val (.int (3 : Int32)), .val (.int v5), .val (.int (128 : Int32)), .val (.int v8), .val (.int (1 : Int32)), .val (.int v29)] [])) _
          refine XS.sipush X0.here hx rfl (hb hby d3_112) ?_
          show Steps p.tables e below (s₁.setTop (mkF m 115 #[.val (.ref a1), .val (.int p2), .val (.int (3 : Int32)), .val (.int v5), .val (.int (128 : Int32)), .val (.int v8), .val (.int (1 : Int32)), .val (.int v29)] [(.int (191 : Int32))])) _
          refine XS.istore X0.here hx rfl (hb hby d3_115) rfl (l' := #[.val (.ref a1), .val (.int p2), .val (.int (3 : Int32)), .val (.int v5), .val (.int (128 : Int32)), .val (.int (191 : Int32)), .val (.int (1 : Int32)), .val (.int v29)]) rfl ?_
          show Steps p.tables e below (s₁.setTop (mkF m 117 #[.val (.ref a1), .val (.int p2), .val (.int (3 : Int32)), .val (.int v5), .val (.int (128 : Int32)), .val (.int (191 : Int32)), .val (.int (1 : Int32)), .val (.int v29)] [])) _
          refine XS.iinc X0.here hx rfl (hb hby d3_117) rfl (l' := #[.val (.ref a1), .val (.int p2), .val (.int (3 : Int32)), .val (.int v5), .val (.int (128 : Int32)), .val (.int (191 : Int32)), .val (.int (2 : Int32)), .val (.int v29)]) rfl ?_
          show Steps p.tables e below (s₁.setTop (mkF m 120 #[.val (.ref a1), .val (.int p2), .val (.int (3 : Int32)), .val (.int v5), .val (.int (128 : Int32)), .val (.int (191 : Int32)), .val (.int (2 : Int32)), .val (.int v29)] [])) _
          refine XS.goto X0.here hx rfl (pc0 := 120) (pc' := 73) rfl (hb hby d3_120) (by decide) (by decide) ?_
          show Steps p.tables e below (s₁.setTop (mkF m 73 #[.val (.ref a1), .val (.int p2), .val (.int (3 : Int32)), .val (.int v5), .val (.int (128 : Int32)), .val (.int (191 : Int32)), .val (.int (2 : Int32)), .val (.int v29)] [])) _
          refine XS.iload X0.here hx rfl (hb hby d3_73) rfl ?_
          show Steps p.tables e below (s₁.setTop (mkF m 75 #[.val (.ref a1), .val (.int p2), .val (.int (3 : Int32)), .val (.int v5), .val (.int (128 : Int32)), .val (.int (191 : Int32)), .val (.int (2 : Int32)), .val (.int v29)] [(.int (2 : Int32))])) _
          refine XS.iloadN X0.here hx rfl (hb hby d3_75) rfl ?_
          show Steps p.tables e below (s₁.setTop (mkF m 76 #[.val (.ref a1), .val (.int p2), .val (.int (3 : Int32)), .val (.int v5), .val (.int (128 : Int32)), .val (.int (191 : Int32)), .val (.int (2 : Int32)), .val (.int v29)] [(.int (3 : Int32)), (.int (2 : Int32))])) _
          refine XS.icmpNo X0.here hx rfl (hb hby d3_76) rfl (tlt (by decide : (2 : Int32) < (3 : Int32))).2.1 ?_
          exact kq
        have pre37 : ∀ tq, Steps p.tables e below (s₁.setTop (mkF m 84 #[.val (.ref a1), .val (.int p2), .val (.int (3 : Int32)), .val (.int v5), .val (.int (128 : Int32)), .val (.int (191 : Int32)), .val (.int (2 : Int32)), .val (.int v29)] [(.int (p2 + (2 : Int32))), (.ref a1)])) tq → Steps p.tables e below (s₁.setTop (entryFrame m #[(.ref a1), (.int p2), (.int (3 : Int32))] 8)) tq := by
          refine fun tq kq => pre36 tq ?_
          show Steps p.tables e below (s₁.setTop (mkF m 79 #[.val (.ref a1), .val (.int p2), .val (.int (3 : Int32)), .val (.int v5), .val (.int (128 : Int32)), .val (.int (191 : Int32)), .val (.int (2 : Int32)), .val (.int v29)] [])) _
          refine XS.aloadN X0.here hx rfl (hb hby d3_79) rfl rfl ?_
          show Steps p.tables e below (s₁.setTop (mkF m 80 #[.val (.ref a1), .val (.int p2), .val (.int (3 : Int32)), .val (.int v5), .val (.int (128 : Int32)), .val (.int (191 : Int32)), .val (.int (2 : Int32)), .val (.int v29)] [(.ref a1)])) _
          refine XS.iloadN X0.here hx rfl (hb hby d3_80) rfl ?_
          show Steps p.tables e below (s₁.setTop (mkF m 81 #[.val (.ref a1), .val (.int p2), .val (.int (3 : Int32)), .val (.int v5), .val (.int (128 : Int32)), .val (.int (191 : Int32)), .val (.int (2 : Int32)), .val (.int v29)] [(.int p2), (.ref a1)])) _
          refine XS.iload X0.here hx rfl (hb hby d3_81) rfl ?_
          show Steps p.tables e below (s₁.setTop (mkF m 83 #[.val (.ref a1), .val (.int p2), .val (.int (3 : Int32)), .val (.int v5), .val (.int (128 : Int32)), .val (.int (191 : Int32)), .val (.int (2 : Int32)), .val (.int v29)] [(.int (2 : Int32)), (.int p2), (.ref a1)])) _
          refine XS.iadd X0.here hx rfl (hb hby d3_83) rfl ?_
          exact kq
        have Vc38 := V_a1
        obtain ⟨cl38, Ar38, Aq38, As38, An38, Ah38, Ag38⟩ := Vc38
        have hin38 : ¬ ((p2 + (2 : Int32)) < 0 ∨ cl38.slots.size ≤ ((p2 + (2 : Int32))).toNatClampNeg) := inb_of As38 (own_in hbd.1 hbd.2 (by decide) (by decide))
        have pre39 : ∀ tq, Steps p.tables e below (s₁.setTop (mkF m 85 #[.val (.ref a1), .val (.int p2), .val (.int (3 : Int32)), .val (.int v5), .val (.int (128 : Int32)), .val (.int (191 : Int32)), .val (.int (2 : Int32)), .val (.int v29)] [(.int y2)])) tq → Steps p.tables e below (s₁.setTop (entryFrame m #[(.ref a1), (.int p2), (.int (3 : Int32))] 8)) tq := fun tq kq => pre37 tq (X0.baloadBytes hx (j := (p2 + (2 : Int32))) (v := (.int y2)) (by rw [e0]; exact Ar38.1) (State.isArrayOf_alike hZ.alike Ar38.2.1) Ar38.2.2 hin38 (Has.at Ah38 hin38 hat2) (g := (mkF m 84 #[.val (.ref a1), .val (.int p2), .val (.int (3 : Int32)), .val (.int v5), .val (.int (128 : Int32)), .val (.int (191 : Int32)), .val (.int (2 : Int32)), .val (.int v29)] [(.int (p2 + (2 : Int32))), (.ref a1)])) rfl rfl (hb hby d3_84) _ kq)
        obtain ⟨v41, hv_v41, pre40⟩ : ∃ v41 : Int32, v41 = (y2 &&& (255 : Int32)) ∧ (∀ tq, Steps p.tables e below (s₁.setTop (mkF m 91 #[.val (.ref a1), .val (.int p2), .val (.int (3 : Int32)), .val (.int v5), .val (.int (128 : Int32)), .val (.int (191 : Int32)), .val (.int (2 : Int32)), .val (.int v41)] [])) tq → Steps p.tables e below (s₁.setTop (entryFrame m #[(.ref a1), (.int p2), (.int (3 : Int32))] 8)) tq) := by
          refine ⟨_, rfl, fun tq kq => pre39 tq ?_⟩
          show Steps p.tables e below (s₁.setTop (mkF m 85 #[.val (.ref a1), .val (.int p2), .val (.int (3 : Int32)), .val (.int v5), .val (.int (128 : Int32)), .val (.int (191 : Int32)), .val (.int (2 : Int32)), .val (.int v29)] [(.int y2)])) _
          refine XS.sipush X0.here hx rfl (hb hby d3_85) ?_
          show Steps p.tables e below (s₁.setTop (mkF m 88 #[.val (.ref a1), .val (.int p2), .val (.int (3 : Int32)), .val (.int v5), .val (.int (128 : Int32)), .val (.int (191 : Int32)), .val (.int (2 : Int32)), .val (.int v29)] [(.int (255 : Int32)), (.int y2)])) _
          refine XS.iand X0.here hx rfl (hb hby d3_88) rfl ?_
          show Steps p.tables e below (s₁.setTop (mkF m 89 #[.val (.ref a1), .val (.int p2), .val (.int (3 : Int32)), .val (.int v5), .val (.int (128 : Int32)), .val (.int (191 : Int32)), .val (.int (2 : Int32)), .val (.int v29)] [(.int (y2 &&& (255 : Int32)))])) _
          refine XS.istore X0.here hx rfl (hb hby d3_89) rfl (l' := #[.val (.ref a1), .val (.int p2), .val (.int (3 : Int32)), .val (.int v5), .val (.int (128 : Int32)), .val (.int (191 : Int32)), .val (.int (2 : Int32)), .val (.int (y2 &&& (255 : Int32)))]) rfl ?_
          exact kq
        have pre42 : ∀ tq, Steps p.tables e below (s₁.setTop (mkF m 95 #[.val (.ref a1), .val (.int p2), .val (.int (3 : Int32)), .val (.int v5), .val (.int (128 : Int32)), .val (.int (191 : Int32)), .val (.int (2 : Int32)), .val (.int v41)] [(.int (128 : Int32)), (.int v41)])) tq → Steps p.tables e below (s₁.setTop (entryFrame m #[(.ref a1), (.int p2), (.int (3 : Int32))] 8)) tq := by
          refine fun tq kq => pre40 tq ?_
          show Steps p.tables e below (s₁.setTop (mkF m 91 #[.val (.ref a1), .val (.int p2), .val (.int (3 : Int32)), .val (.int v5), .val (.int (128 : Int32)), .val (.int (191 : Int32)), .val (.int (2 : Int32)), .val (.int v41)] [])) _
          refine XS.iload X0.here hx rfl (hb hby d3_91) rfl ?_
          show Steps p.tables e below (s₁.setTop (mkF m 93 #[.val (.ref a1), .val (.int p2), .val (.int (3 : Int32)), .val (.int v5), .val (.int (128 : Int32)), .val (.int (191 : Int32)), .val (.int (2 : Int32)), .val (.int v41)] [(.int v41)])) _
          refine XS.iload X0.here hx rfl (hb hby d3_93) rfl ?_
          exact kq
        by_cases hc95' : v41 < (128 : Int32)
        · skip
          have pre43 : ∀ tq, Steps p.tables e below (s₁.setTop (mkF m 105 #[.val (.ref a1), .val (.int p2), .val (.int (3 : Int32)), .val (.int v5), .val (.int (128 : Int32)), .val (.int (191 : Int32)), .val (.int (2 : Int32)), .val (.int v41)] [])) tq → Steps p.tables e below (s₁.setTop (entryFrame m #[(.ref a1), (.int p2), (.int (3 : Int32))] 8)) tq := by
            refine fun tq kq => pre42 tq ?_
            show Steps p.tables e below (s₁.setTop (mkF m 95 #[.val (.ref a1), .val (.int p2), .val (.int (3 : Int32)), .val (.int v5), .val (.int (128 : Int32)), .val (.int (191 : Int32)), .val (.int (2 : Int32)), .val (.int v41)] [(.int (128 : Int32)), (.int v41)])) _
            refine XS.icmpYes X0.here hx rfl (pc0 := 95) (pc' := 105) rfl (hb hby d3_95) rfl (tlt hc95').1 (by decide) (by decide) ?_
            exact kq
          obtain ⟨fs, hr, hrun, hended, hW, hsame⟩ := X0.leave (v := some (.int (0 : Int32))) (fun h => by rw [Bd.returns] at h; cases h)
          refine ⟨_, _, pre43 _ ?_, hrun, hended, _, _, rfl, ?_, ⟨_, rfl⟩, hW, hsame.mono (by decide) (by decide)⟩
          · skip
            show Steps p.tables e below (s₁.setTop (mkF m 105 #[.val (.ref a1), .val (.int p2), .val (.int (3 : Int32)), .val (.int v5), .val (.int (128 : Int32)), .val (.int (191 : Int32)), .val (.int (2 : Int32)), .val (.int v41)] [])) _
            refine XS.iconst X0.here hx rfl (hb hby d3_105) ?_
            show Steps p.tables e below (s₁.setTop (mkF m 106 #[.val (.ref a1), .val (.int p2), .val (.int (3 : Int32)), .val (.int v5), .val (.int (128 : Int32)), .val (.int (191 : Int32)), .val (.int (2 : Int32)), .val (.int v41)] [(.int (0 : Int32))])) _
            exact retN X0 hx (t := .boolean) Bd.returns (by simp) (hb hby d3_106) hr
          · show Q3 Z a1 p2 (3 : Int32) k vs dv y0 y1 y2 y3 h0 n0 _ s₁.heap _
            rw [e0]
            refine ⟨(0 : Int32), rfl, N0, rfl, ?_⟩
            simp only [Int32.lt_iff_toInt_lt, ← Int32.toInt_inj, Int32.reduceToInt, true_and, and_true, false_and, and_false, or_false, false_or, not_true_eq_false, not_false_eq_true, true_implies, false_implies] at hv_v5 hj7 hj9 hv_v29 hc95 hc102 hv_v41 hc95' ⊢ <;> omega
        · skip
          have pre44 : ∀ tq, Steps p.tables e below (s₁.setTop (mkF m 98 #[.val (.ref a1), .val (.int p2), .val (.int (3 : Int32)), .val (.int v5), .val (.int (128 : Int32)), .val (.int (191 : Int32)), .val (.int (2 : Int32)), .val (.int v41)] [])) tq → Steps p.tables e below (s₁.setTop (entryFrame m #[(.ref a1), (.int p2), (.int (3 : Int32))] 8)) tq := by
            refine fun tq kq => pre42 tq ?_
            show Steps p.tables e below (s₁.setTop (mkF m 95 #[.val (.ref a1), .val (.int p2), .val (.int (3 : Int32)), .val (.int v5), .val (.int (128 : Int32)), .val (.int (191 : Int32)), .val (.int (2 : Int32)), .val (.int v41)] [(.int (128 : Int32)), (.int v41)])) _
            refine XS.icmpNo X0.here hx rfl (hb hby d3_95) rfl (flt hc95').1 ?_
            exact kq
          have pre45 : ∀ tq, Steps p.tables e below (s₁.setTop (mkF m 102 #[.val (.ref a1), .val (.int p2), .val (.int (3 : Int32)), .val (.int v5), .val (.int (128 : Int32)), .val (.int (191 : Int32)), .val (.int (2 : Int32)), .val (.int v41)] [(.int (191 : Int32)), (.int v41)])) tq → Steps p.tables e below (s₁.setTop (entryFrame m #[(.ref a1), (.int p2), (.int (3 : Int32))] 8)) tq := by
            refine fun tq kq => pre44 tq ?_
            show Steps p.tables e below (s₁.setTop (mkF m 98 #[.val (.ref a1), .val (.int p2), .val (.int (3 : Int32)), .val (.int v5), .val (.int (128 : Int32)), .val (.int (191 : Int32)), .val (.int (2 : Int32)), .val (.int v41)] [])) _
            refine XS.iload X0.here hx rfl (hb hby d3_98) rfl ?_
            show Steps p.tables e below (s₁.setTop (mkF m 100 #[.val (.ref a1), .val (.int p2), .val (.int (3 : Int32)), .val (.int v5), .val (.int (128 : Int32)), .val (.int (191 : Int32)), .val (.int (2 : Int32)), .val (.int v41)] [(.int v41)])) _
            refine XS.iload X0.here hx rfl (hb hby d3_100) rfl ?_
            exact kq
          by_cases hc102' : (191 : Int32) < v41
          · skip
            have pre46 : ∀ tq, Steps p.tables e below (s₁.setTop (mkF m 105 #[.val (.ref a1), .val (.int p2), .val (.int (3 : Int32)), .val (.int v5), .val (.int (128 : Int32)), .val (.int (191 : Int32)), .val (.int (2 : Int32)), .val (.int v41)] [])) tq → Steps p.tables e below (s₁.setTop (entryFrame m #[(.ref a1), (.int p2), (.int (3 : Int32))] 8)) tq := by
              refine fun tq kq => pre45 tq ?_
              show Steps p.tables e below (s₁.setTop (mkF m 102 #[.val (.ref a1), .val (.int p2), .val (.int (3 : Int32)), .val (.int v5), .val (.int (128 : Int32)), .val (.int (191 : Int32)), .val (.int (2 : Int32)), .val (.int v41)] [(.int (191 : Int32)), (.int v41)])) _
              refine XS.icmpNo X0.here hx rfl (hb hby d3_102) rfl (tlt hc102').2.2.2 ?_
              exact kq
            obtain ⟨fs, hr, hrun, hended, hW, hsame⟩ := X0.leave (v := some (.int (0 : Int32))) (fun h => by rw [Bd.returns] at h; cases h)
            refine ⟨_, _, pre46 _ ?_, hrun, hended, _, _, rfl, ?_, ⟨_, rfl⟩, hW, hsame.mono (by decide) (by decide)⟩
            · skip
              show Steps p.tables e below (s₁.setTop (mkF m 105 #[.val (.ref a1), .val (.int p2), .val (.int (3 : Int32)), .val (.int v5), .val (.int (128 : Int32)), .val (.int (191 : Int32)), .val (.int (2 : Int32)), .val (.int v41)] [])) _
              refine XS.iconst X0.here hx rfl (hb hby d3_105) ?_
              show Steps p.tables e below (s₁.setTop (mkF m 106 #[.val (.ref a1), .val (.int p2), .val (.int (3 : Int32)), .val (.int v5), .val (.int (128 : Int32)), .val (.int (191 : Int32)), .val (.int (2 : Int32)), .val (.int v41)] [(.int (0 : Int32))])) _
              exact retN X0 hx (t := .boolean) Bd.returns (by simp) (hb hby d3_106) hr
            · show Q3 Z a1 p2 (3 : Int32) k vs dv y0 y1 y2 y3 h0 n0 _ s₁.heap _
              rw [e0]
              refine ⟨(0 : Int32), rfl, N0, rfl, ?_⟩
              simp only [Int32.lt_iff_toInt_lt, ← Int32.toInt_inj, Int32.reduceToInt, true_and, and_true, false_and, and_false, or_false, false_or, not_true_eq_false, not_false_eq_true, true_implies, false_implies] at hv_v5 hj7 hj9 hv_v29 hc95 hc102 hv_v41 hc95' hc102' ⊢ <;> omega
          · skip
            have pre47 : ∀ tq, Steps p.tables e below (s₁.setTop (mkF m 107 #[.val (.ref a1), .val (.int p2), .val (.int (3 : Int32)), .val (.int v5), .val (.int (128 : Int32)), .val (.int (191 : Int32)), .val (.int (2 : Int32)), .val (.int v41)] [])) tq → Steps p.tables e below (s₁.setTop (entryFrame m #[(.ref a1), (.int p2), (.int (3 : Int32))] 8)) tq := by
              refine fun tq kq => pre45 tq ?_
              show Steps p.tables e below (s₁.setTop (mkF m 102 #[.val (.ref a1), .val (.int p2), .val (.int (3 : Int32)), .val (.int v5), .val (.int (128 : Int32)), .val (.int (191 : Int32)), .val (.int (2 : Int32)), .val (.int v41)] [(.int (191 : Int32)), (.int v41)])) _
              refine XS.icmpYes X0.here hx rfl (pc0 := 102) (pc' := 107) rfl (hb hby d3_102) rfl (flt hc102').2.2.2 (by decide) (by decide) ?_
              exact kq
            have pre48 : ∀ tq, Steps p.tables e below (s₁.setTop (mkF m 123 #[.val (.ref a1), .val (.int p2), .val (.int (3 : Int32)), .val (.int v5), .val (.int (128 : Int32)), .val (.int (191 : Int32)), .val (.int (3 : Int32)), .val (.int v41)] [])) tq → Steps p.tables e below (s₁.setTop (entryFrame m #[(.ref a1), (.int p2), (.int (3 : Int32))] 8)) tq := by
              refine fun tq kq => pre47 tq ?_
              show Steps p.tables e below (s₁.setTop (mkF m 107 #[.val (.ref a1), .val (.int p2), .val (.int (3 : Int32)), .val (.int v5), .val (.int (128 : Int32)), .val (.int (191 : Int32)), .val (.int (2 : Int32)), .val (.int v41)] [])) _
              refine XS.sipush X0.here hx rfl (hb hby d3_107) ?_
              show Steps p.tables e below (s₁.setTop (mkF m 110 #[.val (.ref a1), .val (.int p2), .val (.int (3 : Int32)), .val (.int v5), .val (.int (128 : Int32)), .val (.int (191 : Int32)), .val (.int (2 : Int32)), .val (.int v41)] [(.int (128 : Int32))])) _
              refine XS.istore X0.here hx rfl (hb hby d3_110) rfl (l' := #[.val (.ref a1), .val (.int p2), .val (.int (3 : Int32)), .val (.int v5), .val (.int (128 : Int32)), .val (.int (191 : Int32)), .val (.int (2 : Int32)), .val (.int v41)]) rfl ?_
              show Steps p.tables e below (s₁.setTop (mkF m 112 #[.val (.ref a1), .val (.int p2), .val (.int (3 : Int32)), .val (.int v5), .val (.int (128 : Int32)), .val (.int (191 : Int32)), .val (.int (2 : Int32)), .val (.int v41)] [])) _
              refine XS.sipush X0.here hx rfl (hb hby d3_112) ?_
              show Steps p.tables e below (s₁.setTop (mkF m 115 #[.val (.ref a1), .val (.int p2), .val (.int (3 : Int32)), .val (.int v5), .val (.int (128 : Int32)), .val (.int (191 : Int32)), .val (.int (2 : Int32)), .val (.int v41)] [(.int (191 : Int32))])) _
              refine XS.istore X0.here hx rfl (hb hby d3_115) rfl (l' := #[.val (.ref a1), .val (.int p2), .val (.int (3 : Int32)), .val (.int v5), .val (.int (128 : Int32)), .val (.int (191 : Int32)), .val (.int (2 : Int32)), .val (.int v41)]) rfl ?_
              show Steps p.tables e below (s₁.setTop (mkF m 117 #[.val (.ref a1), .val (.int p2), .val (.int (3 : Int32)), .val (.int v5), .val (.int (128 : Int32)), .val (.int (191 : Int32)), .val (.int (2 : Int32)), .val (.int v41)] [])) _
              refine XS.iinc X0.here hx rfl (hb hby d3_117) rfl (l' := #[.val (.ref a1), .val (.int p2), .val (.int (3 : Int32)), .val (.int v5), .val (.int (128 : Int32)), .val (.int (191 : Int32)), .val (.int (3 : Int32)), .val (.int v41)]) rfl ?_
              show Steps p.tables e below (s₁.setTop (mkF m 120 #[.val (.ref a1), .val (.int p2), .val (.int (3 : Int32)), .val (.int v5), .val (.int (128 : Int32)), .val (.int (191 : Int32)), .val (.int (3 : Int32)), .val (.int v41)] [])) _
              refine XS.goto X0.here hx rfl (pc0 := 120) (pc' := 73) rfl (hb hby d3_120) (by decide) (by decide) ?_
              show Steps p.tables e below (s₁.setTop (mkF m 73 #[.val (.ref a1), .val (.int p2), .val (.int (3 : Int32)), .val (.int v5), .val (.int (128 : Int32)), .val (.int (191 : Int32)), .val (.int (3 : Int32)), .val (.int v41)] [])) _
              refine XS.iload X0.here hx rfl (hb hby d3_73) rfl ?_
              show Steps p.tables e below (s₁.setTop (mkF m 75 #[.val (.ref a1), .val (.int p2), .val (.int (3 : Int32)), .val (.int v5), .val (.int (128 : Int32)), .val (.int (191 : Int32)), .val (.int (3 : Int32)), .val (.int v41)] [(.int (3 : Int32))])) _
              refine XS.iloadN X0.here hx rfl (hb hby d3_75) rfl ?_
              show Steps p.tables e below (s₁.setTop (mkF m 76 #[.val (.ref a1), .val (.int p2), .val (.int (3 : Int32)), .val (.int v5), .val (.int (128 : Int32)), .val (.int (191 : Int32)), .val (.int (3 : Int32)), .val (.int v41)] [(.int (3 : Int32)), (.int (3 : Int32))])) _
              refine XS.icmpYes X0.here hx rfl (pc0 := 76) (pc' := 123) rfl (hb hby d3_76) rfl (flt (by decide : ¬ ((3 : Int32) < (3 : Int32)))).2.1 (by decide) (by decide) ?_
              exact kq
            obtain ⟨fs, hr, hrun, hended, hW, hsame⟩ := X0.leave (v := some (.int (1 : Int32))) (fun h => by rw [Bd.returns] at h; cases h)
            refine ⟨_, _, pre48 _ ?_, hrun, hended, _, _, rfl, ?_, ⟨_, rfl⟩, hW, hsame.mono (by decide) (by decide)⟩
            · skip
              show Steps p.tables e below (s₁.setTop (mkF m 123 #[.val (.ref a1), .val (.int p2), .val (.int (3 : Int32)), .val (.int v5), .val (.int (128 : Int32)), .val (.int (191 : Int32)), .val (.int (3 : Int32)), .val (.int v41)] [])) _
              refine XS.iconst X0.here hx rfl (hb hby d3_123) ?_
              show Steps p.tables e below (s₁.setTop (mkF m 124 #[.val (.ref a1), .val (.int p2), .val (.int (3 : Int32)), .val (.int v5), .val (.int (128 : Int32)), .val (.int (191 : Int32)), .val (.int (3 : Int32)), .val (.int v41)] [(.int (1 : Int32))])) _
              exact retN X0 hx (t := .boolean) Bd.returns (by simp) (hb hby d3_124) hr
            · show Q3 Z a1 p2 (3 : Int32) k vs dv y0 y1 y2 y3 h0 n0 _ s₁.heap _
              rw [e0]
              refine ⟨(1 : Int32), rfl, N0, rfl, ?_⟩
              simp only [Int32.lt_iff_toInt_lt, ← Int32.toInt_inj, Int32.reduceToInt, true_and, and_true, false_and, and_false, or_false, false_or, not_true_eq_false, not_false_eq_true, true_implies, false_implies] at hv_v5 hj7 hj9 hv_v29 hc95 hc102 hv_v41 hc95' hc102' ⊢ <;> omega
  · skip
    subst hk
    have pre49 : ∀ tq, Steps p.tables e below (s₁.setTop (mkF m 79 #[.val (.ref a1), .val (.int p2), .val (.int (4 : Int32)), .val (.int v5), .val (.int v6), .val (.int v8), .val (.int (1 : Int32)), .unset] [])) tq → Steps p.tables e below (s₁.setTop (entryFrame m #[(.ref a1), (.int p2), (.int (4 : Int32))] 8)) tq := by
      refine fun tq kq => pre10 tq ?_
      show Steps p.tables e below (s₁.setTop (mkF m 70 #[.val (.ref a1), .val (.int p2), .val (.int (4 : Int32)), .val (.int v5), .val (.int v6), .val (.int v8), .unset, .unset] [])) _
      refine XS.iconst X0.here hx rfl (hb hby d3_70) ?_
      show Steps p.tables e below (s₁.setTop (mkF m 71 #[.val (.ref a1), .val (.int p2), .val (.int (4 : Int32)), .val (.int v5), .val (.int v6), .val (.int v8), .unset, .unset] [(.int (1 : Int32))])) _
      refine XS.istore X0.here hx rfl (hb hby d3_71) rfl (l' := #[.val (.ref a1), .val (.int p2), .val (.int (4 : Int32)), .val (.int v5), .val (.int v6), .val (.int v8), .val (.int (1 : Int32)), .unset]) rfl ?_
      show Steps p.tables e below (s₁.setTop (mkF m 73 #[.val (.ref a1), .val (.int p2), .val (.int (4 : Int32)), .val (.int v5), .val (.int v6), .val (.int v8), .val (.int (1 : Int32)), .unset] [])) _
      refine XS.iload X0.here hx rfl (hb hby d3_73) rfl ?_
      show Steps p.tables e below (s₁.setTop (mkF m 75 #[.val (.ref a1), .val (.int p2), .val (.int (4 : Int32)), .val (.int v5), .val (.int v6), .val (.int v8), .val (.int (1 : Int32)), .unset] [(.int (1 : Int32))])) _
      refine XS.iloadN X0.here hx rfl (hb hby d3_75) rfl ?_
      show Steps p.tables e below (s₁.setTop (mkF m 76 #[.val (.ref a1), .val (.int p2), .val (.int (4 : Int32)), .val (.int v5), .val (.int v6), .val (.int v8), .val (.int (1 : Int32)), .unset] [(.int (4 : Int32)), (.int (1 : Int32))])) _
      refine XS.icmpNo X0.here hx rfl (hb hby d3_76) rfl (tlt (by decide : (1 : Int32) < (4 : Int32))).2.1 ?_
      exact kq
    have pre50 : ∀ tq, Steps p.tables e below (s₁.setTop (mkF m 84 #[.val (.ref a1), .val (.int p2), .val (.int (4 : Int32)), .val (.int v5), .val (.int v6), .val (.int v8), .val (.int (1 : Int32)), .unset] [(.int (p2 + (1 : Int32))), (.ref a1)])) tq → Steps p.tables e below (s₁.setTop (entryFrame m #[(.ref a1), (.int p2), (.int (4 : Int32))] 8)) tq := by
      refine fun tq kq => pre49 tq ?_
      show Steps p.tables e below (s₁.setTop (mkF m 79 #[.val (.ref a1), .val (.int p2), .val (.int (4 : Int32)), .val (.int v5), .val (.int v6), .val (.int v8), .val (.int (1 : Int32)), .unset] [])) _
      refine XS.aloadN X0.here hx rfl (hb hby d3_79) rfl rfl ?_
      show Steps p.tables e below (s₁.setTop (mkF m 80 #[.val (.ref a1), .val (.int p2), .val (.int (4 : Int32)), .val (.int v5), .val (.int v6), .val (.int v8), .val (.int (1 : Int32)), .unset] [(.ref a1)])) _
      refine XS.iloadN X0.here hx rfl (hb hby d3_80) rfl ?_
      show Steps p.tables e below (s₁.setTop (mkF m 81 #[.val (.ref a1), .val (.int p2), .val (.int (4 : Int32)), .val (.int v5), .val (.int v6), .val (.int v8), .val (.int (1 : Int32)), .unset] [(.int p2), (.ref a1)])) _
      refine XS.iload X0.here hx rfl (hb hby d3_81) rfl ?_
      show Steps p.tables e below (s₁.setTop (mkF m 83 #[.val (.ref a1), .val (.int p2), .val (.int (4 : Int32)), .val (.int v5), .val (.int v6), .val (.int v8), .val (.int (1 : Int32)), .unset] [(.int (1 : Int32)), (.int p2), (.ref a1)])) _
      refine XS.iadd X0.here hx rfl (hb hby d3_83) rfl ?_
      exact kq
    have Vc51 := V_a1
    obtain ⟨cl51, Ar51, Aq51, As51, An51, Ah51, Ag51⟩ := Vc51
    have hin51 : ¬ ((p2 + (1 : Int32)) < 0 ∨ cl51.slots.size ≤ ((p2 + (1 : Int32))).toNatClampNeg) := inb_of As51 (own_in hbd.1 hbd.2 (by decide) (by decide))
    have pre52 : ∀ tq, Steps p.tables e below (s₁.setTop (mkF m 85 #[.val (.ref a1), .val (.int p2), .val (.int (4 : Int32)), .val (.int v5), .val (.int v6), .val (.int v8), .val (.int (1 : Int32)), .unset] [(.int y1)])) tq → Steps p.tables e below (s₁.setTop (entryFrame m #[(.ref a1), (.int p2), (.int (4 : Int32))] 8)) tq := fun tq kq => pre50 tq (X0.baloadBytes hx (j := (p2 + (1 : Int32))) (v := (.int y1)) (by rw [e0]; exact Ar51.1) (State.isArrayOf_alike hZ.alike Ar51.2.1) Ar51.2.2 hin51 (Has.at Ah51 hin51 hat1) (g := (mkF m 84 #[.val (.ref a1), .val (.int p2), .val (.int (4 : Int32)), .val (.int v5), .val (.int v6), .val (.int v8), .val (.int (1 : Int32)), .unset] [(.int (p2 + (1 : Int32))), (.ref a1)])) rfl rfl (hb hby d3_84) _ kq)
    obtain ⟨v54, hv_v54, pre53⟩ : ∃ v54 : Int32, v54 = (y1 &&& (255 : Int32)) ∧ (∀ tq, Steps p.tables e below (s₁.setTop (mkF m 91 #[.val (.ref a1), .val (.int p2), .val (.int (4 : Int32)), .val (.int v5), .val (.int v6), .val (.int v8), .val (.int (1 : Int32)), .val (.int v54)] [])) tq → Steps p.tables e below (s₁.setTop (entryFrame m #[(.ref a1), (.int p2), (.int (4 : Int32))] 8)) tq) := by
      refine ⟨_, rfl, fun tq kq => pre52 tq ?_⟩
      show Steps p.tables e below (s₁.setTop (mkF m 85 #[.val (.ref a1), .val (.int p2), .val (.int (4 : Int32)), .val (.int v5), .val (.int v6), .val (.int v8), .val (.int (1 : Int32)), .unset] [(.int y1)])) _
      refine XS.sipush X0.here hx rfl (hb hby d3_85) ?_
      show Steps p.tables e below (s₁.setTop (mkF m 88 #[.val (.ref a1), .val (.int p2), .val (.int (4 : Int32)), .val (.int v5), .val (.int v6), .val (.int v8), .val (.int (1 : Int32)), .unset] [(.int (255 : Int32)), (.int y1)])) _
      refine XS.iand X0.here hx rfl (hb hby d3_88) rfl ?_
      show Steps p.tables e below (s₁.setTop (mkF m 89 #[.val (.ref a1), .val (.int p2), .val (.int (4 : Int32)), .val (.int v5), .val (.int v6), .val (.int v8), .val (.int (1 : Int32)), .unset] [(.int (y1 &&& (255 : Int32)))])) _
      refine XS.istore X0.here hx rfl (hb hby d3_89) rfl (l' := #[.val (.ref a1), .val (.int p2), .val (.int (4 : Int32)), .val (.int v5), .val (.int v6), .val (.int v8), .val (.int (1 : Int32)), .val (.int (y1 &&& (255 : Int32)))]) rfl ?_
      exact kq
    have pre55 : ∀ tq, Steps p.tables e below (s₁.setTop (mkF m 95 #[.val (.ref a1), .val (.int p2), .val (.int (4 : Int32)), .val (.int v5), .val (.int v6), .val (.int v8), .val (.int (1 : Int32)), .val (.int v54)] [(.int v6), (.int v54)])) tq → Steps p.tables e below (s₁.setTop (entryFrame m #[(.ref a1), (.int p2), (.int (4 : Int32))] 8)) tq := by
      refine fun tq kq => pre53 tq ?_
      show Steps p.tables e below (s₁.setTop (mkF m 91 #[.val (.ref a1), .val (.int p2), .val (.int (4 : Int32)), .val (.int v5), .val (.int v6), .val (.int v8), .val (.int (1 : Int32)), .val (.int v54)] [])) _
      refine XS.iload X0.here hx rfl (hb hby d3_91) rfl ?_
      show Steps p.tables e below (s₁.setTop (mkF m 93 #[.val (.ref a1), .val (.int p2), .val (.int (4 : Int32)), .val (.int v5), .val (.int v6), .val (.int v8), .val (.int (1 : Int32)), .val (.int v54)] [(.int v54)])) _
      refine XS.iload X0.here hx rfl (hb hby d3_93) rfl ?_
      exact kq
    by_cases hc95 : v54 < v6
    · skip
      have pre56 : ∀ tq, Steps p.tables e below (s₁.setTop (mkF m 105 #[.val (.ref a1), .val (.int p2), .val (.int (4 : Int32)), .val (.int v5), .val (.int v6), .val (.int v8), .val (.int (1 : Int32)), .val (.int v54)] [])) tq → Steps p.tables e below (s₁.setTop (entryFrame m #[(.ref a1), (.int p2), (.int (4 : Int32))] 8)) tq := by
        refine fun tq kq => pre55 tq ?_
        show Steps p.tables e below (s₁.setTop (mkF m 95 #[.val (.ref a1), .val (.int p2), .val (.int (4 : Int32)), .val (.int v5), .val (.int v6), .val (.int v8), .val (.int (1 : Int32)), .val (.int v54)] [(.int v6), (.int v54)])) _
        refine XS.icmpYes X0.here hx rfl (pc0 := 95) (pc' := 105) rfl (hb hby d3_95) rfl (tlt hc95).1 (by decide) (by decide) ?_
        exact kq
      obtain ⟨fs, hr, hrun, hended, hW, hsame⟩ := X0.leave (v := some (.int (0 : Int32))) (fun h => by rw [Bd.returns] at h; cases h)
      refine ⟨_, _, pre56 _ ?_, hrun, hended, _, _, rfl, ?_, ⟨_, rfl⟩, hW, hsame.mono (by decide) (by decide)⟩
      · skip
        show Steps p.tables e below (s₁.setTop (mkF m 105 #[.val (.ref a1), .val (.int p2), .val (.int (4 : Int32)), .val (.int v5), .val (.int v6), .val (.int v8), .val (.int (1 : Int32)), .val (.int v54)] [])) _
        refine XS.iconst X0.here hx rfl (hb hby d3_105) ?_
        show Steps p.tables e below (s₁.setTop (mkF m 106 #[.val (.ref a1), .val (.int p2), .val (.int (4 : Int32)), .val (.int v5), .val (.int v6), .val (.int v8), .val (.int (1 : Int32)), .val (.int v54)] [(.int (0 : Int32))])) _
        exact retN X0 hx (t := .boolean) Bd.returns (by simp) (hb hby d3_106) hr
      · show Q3 Z a1 p2 (4 : Int32) k vs dv y0 y1 y2 y3 h0 n0 _ s₁.heap _
        rw [e0]
        refine ⟨(0 : Int32), rfl, N0, rfl, ?_⟩
        simp only [Int32.lt_iff_toInt_lt, ← Int32.toInt_inj, Int32.reduceToInt, true_and, and_true, false_and, and_false, or_false, false_or, not_true_eq_false, not_false_eq_true, true_implies, false_implies] at hv_v5 hj7 hj9 hv_v54 hc95 ⊢ <;> omega
    · skip
      have pre57 : ∀ tq, Steps p.tables e below (s₁.setTop (mkF m 98 #[.val (.ref a1), .val (.int p2), .val (.int (4 : Int32)), .val (.int v5), .val (.int v6), .val (.int v8), .val (.int (1 : Int32)), .val (.int v54)] [])) tq → Steps p.tables e below (s₁.setTop (entryFrame m #[(.ref a1), (.int p2), (.int (4 : Int32))] 8)) tq := by
        refine fun tq kq => pre55 tq ?_
        show Steps p.tables e below (s₁.setTop (mkF m 95 #[.val (.ref a1), .val (.int p2), .val (.int (4 : Int32)), .val (.int v5), .val (.int v6), .val (.int v8), .val (.int (1 : Int32)), .val (.int v54)] [(.int v6), (.int v54)])) _
        refine XS.icmpNo X0.here hx rfl (hb hby d3_95) rfl (flt hc95).1 ?_
        exact kq
      have pre58 : ∀ tq, Steps p.tables e below (s₁.setTop (mkF m 102 #[.val (.ref a1), .val (.int p2), .val (.int (4 : Int32)), .val (.int v5), .val (.int v6), .val (.int v8), .val (.int (1 : Int32)), .val (.int v54)] [(.int v8), (.int v54)])) tq → Steps p.tables e below (s₁.setTop (entryFrame m #[(.ref a1), (.int p2), (.int (4 : Int32))] 8)) tq := by
        refine fun tq kq => pre57 tq ?_
        show Steps p.tables e below (s₁.setTop (mkF m 98 #[.val (.ref a1), .val (.int p2), .val (.int (4 : Int32)), .val (.int v5), .val (.int v6), .val (.int v8), .val (.int (1 : Int32)), .val (.int v54)] [])) _
        refine XS.iload X0.here hx rfl (hb hby d3_98) rfl ?_
        show Steps p.tables e below (s₁.setTop (mkF m 100 #[.val (.ref a1), .val (.int p2), .val (.int (4 : Int32)), .val (.int v5), .val (.int v6), .val (.int v8), .val (.int (1 : Int32)), .val (.int v54)] [(.int v54)])) _
        refine XS.iload X0.here hx rfl (hb hby d3_100) rfl ?_
        exact kq
      by_cases hc102 : v8 < v54
      · skip
        have pre59 : ∀ tq, Steps p.tables e below (s₁.setTop (mkF m 105 #[.val (.ref a1), .val (.int p2), .val (.int (4 : Int32)), .val (.int v5), .val (.int v6), .val (.int v8), .val (.int (1 : Int32)), .val (.int v54)] [])) tq → Steps p.tables e below (s₁.setTop (entryFrame m #[(.ref a1), (.int p2), (.int (4 : Int32))] 8)) tq := by
          refine fun tq kq => pre58 tq ?_
          show Steps p.tables e below (s₁.setTop (mkF m 102 #[.val (.ref a1), .val (.int p2), .val (.int (4 : Int32)), .val (.int v5), .val (.int v6), .val (.int v8), .val (.int (1 : Int32)), .val (.int v54)] [(.int v8), (.int v54)])) _
          refine XS.icmpNo X0.here hx rfl (hb hby d3_102) rfl (tlt hc102).2.2.2 ?_
          exact kq
        obtain ⟨fs, hr, hrun, hended, hW, hsame⟩ := X0.leave (v := some (.int (0 : Int32))) (fun h => by rw [Bd.returns] at h; cases h)
        refine ⟨_, _, pre59 _ ?_, hrun, hended, _, _, rfl, ?_, ⟨_, rfl⟩, hW, hsame.mono (by decide) (by decide)⟩
        · skip
          show Steps p.tables e below (s₁.setTop (mkF m 105 #[.val (.ref a1), .val (.int p2), .val (.int (4 : Int32)), .val (.int v5), .val (.int v6), .val (.int v8), .val (.int (1 : Int32)), .val (.int v54)] [])) _
          refine XS.iconst X0.here hx rfl (hb hby d3_105) ?_
          show Steps p.tables e below (s₁.setTop (mkF m 106 #[.val (.ref a1), .val (.int p2), .val (.int (4 : Int32)), .val (.int v5), .val (.int v6), .val (.int v8), .val (.int (1 : Int32)), .val (.int v54)] [(.int (0 : Int32))])) _
          exact retN X0 hx (t := .boolean) Bd.returns (by simp) (hb hby d3_106) hr
        · show Q3 Z a1 p2 (4 : Int32) k vs dv y0 y1 y2 y3 h0 n0 _ s₁.heap _
          rw [e0]
          refine ⟨(0 : Int32), rfl, N0, rfl, ?_⟩
          simp only [Int32.lt_iff_toInt_lt, ← Int32.toInt_inj, Int32.reduceToInt, true_and, and_true, false_and, and_false, or_false, false_or, not_true_eq_false, not_false_eq_true, true_implies, false_implies] at hv_v5 hj7 hj9 hv_v54 hc95 hc102 ⊢ <;> omega
      · skip
        have pre60 : ∀ tq, Steps p.tables e below (s₁.setTop (mkF m 107 #[.val (.ref a1), .val (.int p2), .val (.int (4 : Int32)), .val (.int v5), .val (.int v6), .val (.int v8), .val (.int (1 : Int32)), .val (.int v54)] [])) tq → Steps p.tables e below (s₁.setTop (entryFrame m #[(.ref a1), (.int p2), (.int (4 : Int32))] 8)) tq := by
          refine fun tq kq => pre58 tq ?_
          show Steps p.tables e below (s₁.setTop (mkF m 102 #[.val (.ref a1), .val (.int p2), .val (.int (4 : Int32)), .val (.int v5), .val (.int v6), .val (.int v8), .val (.int (1 : Int32)), .val (.int v54)] [(.int v8), (.int v54)])) _
          refine XS.icmpYes X0.here hx rfl (pc0 := 102) (pc' := 107) rfl (hb hby d3_102) rfl (flt hc102).2.2.2 (by decide) (by decide) ?_
          exact kq
        have pre61 : ∀ tq, Steps p.tables e below (s₁.setTop (mkF m 79 #[.val (.ref a1), .val (.int p2), .val (.int (4 : Int32)), .val (.int v5), .val (.int (128 : Int32)), .val (.int (191 : Int32)), .val (.int (2 : Int32)), .val (.int v54)] [])) tq → Steps p.tables e below (s₁.setTop (entryFrame m #[(.ref a1), (.int p2), (.int (4 : Int32))] 8)) tq := by
          refine fun tq kq => pre60 tq ?_
          show Steps p.tables e below (s₁.setTop (mkF m 107 #[.val (.ref a1), .val (.int p2), .val (.int (4 : Int32)), .val (.int v5), .val (.int v6), .val (.int v8), .val (.int (1 : Int32)), .val (.int v54)] [])) _
          refine XS.sipush X0.here hx rfl (hb hby d3_107) ?_
          show Steps p.tables e below (s₁.setTop (mkF m 110 #[.val (.ref a1), .val (.int p2), .val (.int (4 : Int32)), .val (.int v5), .val (.int v6), .val (.int v8), .val (.int (1 : Int32)), .val (.int v54)] [(.int (128 : Int32))])) _
          refine XS.istore X0.here hx rfl (hb hby d3_110) rfl (l' := #[.val (.ref a1), .val (.int p2), .val (.int (4 : Int32)), .val (.int v5), .val (.int (128 : Int32)), .val (.int v8), .val (.int (1 : Int32)), .val (.int v54)]) rfl ?_
          show Steps p.tables e below (s₁.setTop (mkF m 112 #[.val (.ref a1), .val (.int p2), .val (.int (4 : Int32)), .val (.int v5), .val (.int (128 : Int32)), .val (.int v8), .val (.int (1 : Int32)), .val (.int v54)] [])) _
          refine XS.sipush X0.here hx rfl (hb hby d3_112) ?_
          show Steps p.tables e below (s₁.setTop (mkF m 115 #[.val (.ref a1), .val (.int p2), .val (.int (4 : Int32)), .val (.int v5), .val (.int (128 : Int32)), .val (.int v8), .val (.int (1 : Int32)), .val (.int v54)] [(.int (191 : Int32))])) _
          refine XS.istore X0.here hx rfl (hb hby d3_115) rfl (l' := #[.val (.ref a1), .val (.int p2), .val (.int (4 : Int32)), .val (.int v5), .val (.int (128 : Int32)), .val (.int (191 : Int32)), .val (.int (1 : Int32)), .val (.int v54)]) rfl ?_
          show Steps p.tables e below (s₁.setTop (mkF m 117 #[.val (.ref a1), .val (.int p2), .val (.int (4 : Int32)), .val (.int v5), .val (.int (128 : Int32)), .val (.int (191 : Int32)), .val (.int (1 : Int32)), .val (.int v54)] [])) _
          refine XS.iinc X0.here hx rfl (hb hby d3_117) rfl (l' := #[.val (.ref a1), .val (.int p2), .val (.int (4 : Int32)), .val (.int v5), .val (.int (128 : Int32)), .val (.int (191 : Int32)), .val (.int (2 : Int32)), .val (.int v54)]) rfl ?_
          show Steps p.tables e below (s₁.setTop (mkF m 120 #[.val (.ref a1), .val (.int p2), .val (.int (4 : Int32)), .val (.int v5), .val (.int (128 : Int32)), .val (.int (191 : Int32)), .val (.int (2 : Int32)), .val (.int v54)] [])) _
          refine XS.goto X0.here hx rfl (pc0 := 120) (pc' := 73) rfl (hb hby d3_120) (by decide) (by decide) ?_
          show Steps p.tables e below (s₁.setTop (mkF m 73 #[.val (.ref a1), .val (.int p2), .val (.int (4 : Int32)), .val (.int v5), .val (.int (128 : Int32)), .val (.int (191 : Int32)), .val (.int (2 : Int32)), .val (.int v54)] [])) _
          refine XS.iload X0.here hx rfl (hb hby d3_73) rfl ?_
          show Steps p.tables e below (s₁.setTop (mkF m 75 #[.val (.ref a1), .val (.int p2), .val (.int (4 : Int32)), .val (.int v5), .val (.int (128 : Int32)), .val (.int (191 : Int32)), .val (.int (2 : Int32)), .val (.int v54)] [(.int (2 : Int32))])) _
          refine XS.iloadN X0.here hx rfl (hb hby d3_75) rfl ?_
          show Steps p.tables e below (s₁.setTop (mkF m 76 #[.val (.ref a1), .val (.int p2), .val (.int (4 : Int32)), .val (.int v5), .val (.int (128 : Int32)), .val (.int (191 : Int32)), .val (.int (2 : Int32)), .val (.int v54)] [(.int (4 : Int32)), (.int (2 : Int32))])) _
          refine XS.icmpNo X0.here hx rfl (hb hby d3_76) rfl (tlt (by decide : (2 : Int32) < (4 : Int32))).2.1 ?_
          exact kq
        have pre62 : ∀ tq, Steps p.tables e below (s₁.setTop (mkF m 84 #[.val (.ref a1), .val (.int p2), .val (.int (4 : Int32)), .val (.int v5), .val (.int (128 : Int32)), .val (.int (191 : Int32)), .val (.int (2 : Int32)), .val (.int v54)] [(.int (p2 + (2 : Int32))), (.ref a1)])) tq → Steps p.tables e below (s₁.setTop (entryFrame m #[(.ref a1), (.int p2), (.int (4 : Int32))] 8)) tq := by
          refine fun tq kq => pre61 tq ?_
          show Steps p.tables e below (s₁.setTop (mkF m 79 #[.val (.ref a1), .val (.int p2), .val (.int (4 : Int32)), .val (.int v5), .val (.int (128 : Int32)), .val (.int (191 : Int32)), .val (.int (2 : Int32)), .val (.int v54)] [])) _
          refine XS.aloadN X0.here hx rfl (hb hby d3_79) rfl rfl ?_
          show Steps p.tables e below (s₁.setTop (mkF m 80 #[.val (.ref a1), .val (.int p2), .val (.int (4 : Int32)), .val (.int v5), .val (.int (128 : Int32)), .val (.int (191 : Int32)), .val (.int (2 : Int32)), .val (.int v54)] [(.ref a1)])) _
          refine XS.iloadN X0.here hx rfl (hb hby d3_80) rfl ?_
          show Steps p.tables e below (s₁.setTop (mkF m 81 #[.val (.ref a1), .val (.int p2), .val (.int (4 : Int32)), .val (.int v5), .val (.int (128 : Int32)), .val (.int (191 : Int32)), .val (.int (2 : Int32)), .val (.int v54)] [(.int p2), (.ref a1)])) _
          refine XS.iload X0.here hx rfl (hb hby d3_81) rfl ?_
          show Steps p.tables e below (s₁.setTop (mkF m 83 #[.val (.ref a1), .val (.int p2), .val (.int (4 : Int32)), .val (.int v5), .val (.int (128 : Int32)), .val (.int (191 : Int32)), .val (.int (2 : Int32)), .val (.int v54)] [(.int (2 : Int32)), (.int p2), (.ref a1)])) _
          refine XS.iadd X0.here hx rfl (hb hby d3_83) rfl ?_
          exact kq
        have Vc63 := V_a1
        obtain ⟨cl63, Ar63, Aq63, As63, An63, Ah63, Ag63⟩ := Vc63
        have hin63 : ¬ ((p2 + (2 : Int32)) < 0 ∨ cl63.slots.size ≤ ((p2 + (2 : Int32))).toNatClampNeg) := inb_of As63 (own_in hbd.1 hbd.2 (by decide) (by decide))
        have pre64 : ∀ tq, Steps p.tables e below (s₁.setTop (mkF m 85 #[.val (.ref a1), .val (.int p2), .val (.int (4 : Int32)), .val (.int v5), .val (.int (128 : Int32)), .val (.int (191 : Int32)), .val (.int (2 : Int32)), .val (.int v54)] [(.int y2)])) tq → Steps p.tables e below (s₁.setTop (entryFrame m #[(.ref a1), (.int p2), (.int (4 : Int32))] 8)) tq := fun tq kq => pre62 tq (X0.baloadBytes hx (j := (p2 + (2 : Int32))) (v := (.int y2)) (by rw [e0]; exact Ar63.1) (State.isArrayOf_alike hZ.alike Ar63.2.1) Ar63.2.2 hin63 (Has.at Ah63 hin63 hat2) (g := (mkF m 84 #[.val (.ref a1), .val (.int p2), .val (.int (4 : Int32)), .val (.int v5), .val (.int (128 : Int32)), .val (.int (191 : Int32)), .val (.int (2 : Int32)), .val (.int v54)] [(.int (p2 + (2 : Int32))), (.ref a1)])) rfl rfl (hb hby d3_84) _ kq)
        obtain ⟨v66, hv_v66, pre65⟩ : ∃ v66 : Int32, v66 = (y2 &&& (255 : Int32)) ∧ (∀ tq, Steps p.tables e below (s₁.setTop (mkF m 91 #[.val (.ref a1), .val (.int p2), .val (.int (4 : Int32)), .val (.int v5), .val (.int (128 : Int32)), .val (.int (191 : Int32)), .val (.int (2 : Int32)), .val (.int v66)] [])) tq → Steps p.tables e below (s₁.setTop (entryFrame m #[(.ref a1), (.int p2), (.int (4 : Int32))] 8)) tq) := by
          refine ⟨_, rfl, fun tq kq => pre64 tq ?_⟩
          show Steps p.tables e below (s₁.setTop (mkF m 85 #[.val (.ref a1), .val (.int p2), .val (.int (4 : Int32)), .val (.int v5), .val (.int (128 : Int32)), .val (.int (191 : Int32)), .val (.int (2 : Int32)), .val (.int v54)] [(.int y2)])) _
          refine XS.sipush X0.here hx rfl (hb hby d3_85) ?_
          show Steps p.tables e below (s₁.setTop (mkF m 88 #[.val (.ref a1), .val (.int p2), .val (.int (4 : Int32)), .val (.int v5), .val (.int (128 : Int32)), .val (.int (191 : Int32)), .val (.int (2 : Int32)), .val (.int v54)] [(.int (255 : Int32)), (.int y2)])) _
          refine XS.iand X0.here hx rfl (hb hby d3_88) rfl ?_
          show Steps p.tables e below (s₁.setTop (mkF m 89 #[.val (.ref a1), .val (.int p2), .val (.int (4 : Int32)), .val (.int v5), .val (.int (128 : Int32)), .val (.int (191 : Int32)), .val (.int (2 : Int32)), .val (.int v54)] [(.int (y2 &&& (255 : Int32)))])) _
          refine XS.istore X0.here hx rfl (hb hby d3_89) rfl (l' := #[.val (.ref a1), .val (.int p2), .val (.int (4 : Int32)), .val (.int v5), .val (.int (128 : Int32)), .val (.int (191 : Int32)), .val (.int (2 : Int32)), .val (.int (y2 &&& (255 : Int32)))]) rfl ?_
          exact kq
        have pre67 : ∀ tq, Steps p.tables e below (s₁.setTop (mkF m 95 #[.val (.ref a1), .val (.int p2), .val (.int (4 : Int32)), .val (.int v5), .val (.int (128 : Int32)), .val (.int (191 : Int32)), .val (.int (2 : Int32)), .val (.int v66)] [(.int (128 : Int32)), (.int v66)])) tq → Steps p.tables e below (s₁.setTop (entryFrame m #[(.ref a1), (.int p2), (.int (4 : Int32))] 8)) tq := by
          refine fun tq kq => pre65 tq ?_
          show Steps p.tables e below (s₁.setTop (mkF m 91 #[.val (.ref a1), .val (.int p2), .val (.int (4 : Int32)), .val (.int v5), .val (.int (128 : Int32)), .val (.int (191 : Int32)), .val (.int (2 : Int32)), .val (.int v66)] [])) _
          refine XS.iload X0.here hx rfl (hb hby d3_91) rfl ?_
          show Steps p.tables e below (s₁.setTop (mkF m 93 #[.val (.ref a1), .val (.int p2), .val (.int (4 : Int32)), .val (.int v5), .val (.int (128 : Int32)), .val (.int (191 : Int32)), .val (.int (2 : Int32)), .val (.int v66)] [(.int v66)])) _
          refine XS.iload X0.here hx rfl (hb hby d3_93) rfl ?_
          exact kq
        by_cases hc95' : v66 < (128 : Int32)
        · skip
          have pre68 : ∀ tq, Steps p.tables e below (s₁.setTop (mkF m 105 #[.val (.ref a1), .val (.int p2), .val (.int (4 : Int32)), .val (.int v5), .val (.int (128 : Int32)), .val (.int (191 : Int32)), .val (.int (2 : Int32)), .val (.int v66)] [])) tq → Steps p.tables e below (s₁.setTop (entryFrame m #[(.ref a1), (.int p2), (.int (4 : Int32))] 8)) tq := by
            refine fun tq kq => pre67 tq ?_
            show Steps p.tables e below (s₁.setTop (mkF m 95 #[.val (.ref a1), .val (.int p2), .val (.int (4 : Int32)), .val (.int v5), .val (.int (128 : Int32)), .val (.int (191 : Int32)), .val (.int (2 : Int32)), .val (.int v66)] [(.int (128 : Int32)), (.int v66)])) _
            refine XS.icmpYes X0.here hx rfl (pc0 := 95) (pc' := 105) rfl (hb hby d3_95) rfl (tlt hc95').1 (by decide) (by decide) ?_
            exact kq
          obtain ⟨fs, hr, hrun, hended, hW, hsame⟩ := X0.leave (v := some (.int (0 : Int32))) (fun h => by rw [Bd.returns] at h; cases h)
          refine ⟨_, _, pre68 _ ?_, hrun, hended, _, _, rfl, ?_, ⟨_, rfl⟩, hW, hsame.mono (by decide) (by decide)⟩
          · skip
            show Steps p.tables e below (s₁.setTop (mkF m 105 #[.val (.ref a1), .val (.int p2), .val (.int (4 : Int32)), .val (.int v5), .val (.int (128 : Int32)), .val (.int (191 : Int32)), .val (.int (2 : Int32)), .val (.int v66)] [])) _
            refine XS.iconst X0.here hx rfl (hb hby d3_105) ?_
            show Steps p.tables e below (s₁.setTop (mkF m 106 #[.val (.ref a1), .val (.int p2), .val (.int (4 : Int32)), .val (.int v5), .val (.int (128 : Int32)), .val (.int (191 : Int32)), .val (.int (2 : Int32)), .val (.int v66)] [(.int (0 : Int32))])) _
            exact retN X0 hx (t := .boolean) Bd.returns (by simp) (hb hby d3_106) hr
          · show Q3 Z a1 p2 (4 : Int32) k vs dv y0 y1 y2 y3 h0 n0 _ s₁.heap _
            rw [e0]
            refine ⟨(0 : Int32), rfl, N0, rfl, ?_⟩
            simp only [Int32.lt_iff_toInt_lt, ← Int32.toInt_inj, Int32.reduceToInt, true_and, and_true, false_and, and_false, or_false, false_or, not_true_eq_false, not_false_eq_true, true_implies, false_implies] at hv_v5 hj7 hj9 hv_v54 hc95 hc102 hv_v66 hc95' ⊢ <;> omega
        · skip
          have pre69 : ∀ tq, Steps p.tables e below (s₁.setTop (mkF m 98 #[.val (.ref a1), .val (.int p2), .val (.int (4 : Int32)), .val (.int v5), .val (.int (128 : Int32)), .val (.int (191 : Int32)), .val (.int (2 : Int32)), .val (.int v66)] [])) tq → Steps p.tables e below (s₁.setTop (entryFrame m #[(.ref a1), (.int p2), (.int (4 : Int32))] 8)) tq := by
            refine fun tq kq => pre67 tq ?_
            show Steps p.tables e below (s₁.setTop (mkF m 95 #[.val (.ref a1), .val (.int p2), .val (.int (4 : Int32)), .val (.int v5), .val (.int (128 : Int32)), .val (.int (191 : Int32)), .val (.int (2 : Int32)), .val (.int v66)] [(.int (128 : Int32)), (.int v66)])) _
            refine XS.icmpNo X0.here hx rfl (hb hby d3_95) rfl (flt hc95').1 ?_
            exact kq
          have pre70 : ∀ tq, Steps p.tables e below (s₁.setTop (mkF m 102 #[.val (.ref a1), .val (.int p2), .val (.int (4 : Int32)), .val (.int v5), .val (.int (128 : Int32)), .val (.int (191 : Int32)), .val (.int (2 : Int32)), .val (.int v66)] [(.int (191 : Int32)), (.int v66)])) tq → Steps p.tables e below (s₁.setTop (entryFrame m #[(.ref a1), (.int p2), (.int (4 : Int32))] 8)) tq := by
            refine fun tq kq => pre69 tq ?_
            show Steps p.tables e below (s₁.setTop (mkF m 98 #[.val (.ref a1), .val (.int p2), .val (.int (4 : Int32)), .val (.int v5), .val (.int (128 : Int32)), .val (.int (191 : Int32)), .val (.int (2 : Int32)), .val (.int v66)] [])) _
            refine XS.iload X0.here hx rfl (hb hby d3_98) rfl ?_
            show Steps p.tables e below (s₁.setTop (mkF m 100 #[.val (.ref a1), .val (.int p2), .val (.int (4 : Int32)), .val (.int v5), .val (.int (128 : Int32)), .val (.int (191 : Int32)), .val (.int (2 : Int32)), .val (.int v66)] [(.int v66)])) _
            refine XS.iload X0.here hx rfl (hb hby d3_100) rfl ?_
            exact kq
          by_cases hc102' : (191 : Int32) < v66
          · skip
            have pre71 : ∀ tq, Steps p.tables e below (s₁.setTop (mkF m 105 #[.val (.ref a1), .val (.int p2), .val (.int (4 : Int32)), .val (.int v5), .val (.int (128 : Int32)), .val (.int (191 : Int32)), .val (.int (2 : Int32)), .val (.int v66)] [])) tq → Steps p.tables e below (s₁.setTop (entryFrame m #[(.ref a1), (.int p2), (.int (4 : Int32))] 8)) tq := by
              refine fun tq kq => pre70 tq ?_
              show Steps p.tables e below (s₁.setTop (mkF m 102 #[.val (.ref a1), .val (.int p2), .val (.int (4 : Int32)), .val (.int v5), .val (.int (128 : Int32)), .val (.int (191 : Int32)), .val (.int (2 : Int32)), .val (.int v66)] [(.int (191 : Int32)), (.int v66)])) _
              refine XS.icmpNo X0.here hx rfl (hb hby d3_102) rfl (tlt hc102').2.2.2 ?_
              exact kq
            obtain ⟨fs, hr, hrun, hended, hW, hsame⟩ := X0.leave (v := some (.int (0 : Int32))) (fun h => by rw [Bd.returns] at h; cases h)
            refine ⟨_, _, pre71 _ ?_, hrun, hended, _, _, rfl, ?_, ⟨_, rfl⟩, hW, hsame.mono (by decide) (by decide)⟩
            · skip
              show Steps p.tables e below (s₁.setTop (mkF m 105 #[.val (.ref a1), .val (.int p2), .val (.int (4 : Int32)), .val (.int v5), .val (.int (128 : Int32)), .val (.int (191 : Int32)), .val (.int (2 : Int32)), .val (.int v66)] [])) _
              refine XS.iconst X0.here hx rfl (hb hby d3_105) ?_
              show Steps p.tables e below (s₁.setTop (mkF m 106 #[.val (.ref a1), .val (.int p2), .val (.int (4 : Int32)), .val (.int v5), .val (.int (128 : Int32)), .val (.int (191 : Int32)), .val (.int (2 : Int32)), .val (.int v66)] [(.int (0 : Int32))])) _
              exact retN X0 hx (t := .boolean) Bd.returns (by simp) (hb hby d3_106) hr
            · show Q3 Z a1 p2 (4 : Int32) k vs dv y0 y1 y2 y3 h0 n0 _ s₁.heap _
              rw [e0]
              refine ⟨(0 : Int32), rfl, N0, rfl, ?_⟩
              simp only [Int32.lt_iff_toInt_lt, ← Int32.toInt_inj, Int32.reduceToInt, true_and, and_true, false_and, and_false, or_false, false_or, not_true_eq_false, not_false_eq_true, true_implies, false_implies] at hv_v5 hj7 hj9 hv_v54 hc95 hc102 hv_v66 hc95' hc102' ⊢ <;> omega
          · skip
            have pre72 : ∀ tq, Steps p.tables e below (s₁.setTop (mkF m 107 #[.val (.ref a1), .val (.int p2), .val (.int (4 : Int32)), .val (.int v5), .val (.int (128 : Int32)), .val (.int (191 : Int32)), .val (.int (2 : Int32)), .val (.int v66)] [])) tq → Steps p.tables e below (s₁.setTop (entryFrame m #[(.ref a1), (.int p2), (.int (4 : Int32))] 8)) tq := by
              refine fun tq kq => pre70 tq ?_
              show Steps p.tables e below (s₁.setTop (mkF m 102 #[.val (.ref a1), .val (.int p2), .val (.int (4 : Int32)), .val (.int v5), .val (.int (128 : Int32)), .val (.int (191 : Int32)), .val (.int (2 : Int32)), .val (.int v66)] [(.int (191 : Int32)), (.int v66)])) _
              refine XS.icmpYes X0.here hx rfl (pc0 := 102) (pc' := 107) rfl (hb hby d3_102) rfl (flt hc102').2.2.2 (by decide) (by decide) ?_
              exact kq
            have pre73 : ∀ tq, Steps p.tables e below (s₁.setTop (mkF m 79 #[.val (.ref a1), .val (.int p2), .val (.int (4 : Int32)), .val (.int v5), .val (.int (128 : Int32)), .val (.int (191 : Int32)), .val (.int (3 : Int32)), .val (.int v66)] [])) tq → Steps p.tables e below (s₁.setTop (entryFrame m #[(.ref a1), (.int p2), (.int (4 : Int32))] 8)) tq := by
              refine fun tq kq => pre72 tq ?_
              show Steps p.tables e below (s₁.setTop (mkF m 107 #[.val (.ref a1), .val (.int p2), .val (.int (4 : Int32)), .val (.int v5), .val (.int (128 : Int32)), .val (.int (191 : Int32)), .val (.int (2 : Int32)), .val (.int v66)] [])) _
              refine XS.sipush X0.here hx rfl (hb hby d3_107) ?_
              show Steps p.tables e below (s₁.setTop (mkF m 110 #[.val (.ref a1), .val (.int p2), .val (.int (4 : Int32)), .val (.int v5), .val (.int (128 : Int32)), .val (.int (191 : Int32)), .val (.int (2 : Int32)), .val (.int v66)] [(.int (128 : Int32))])) _
              refine XS.istore X0.here hx rfl (hb hby d3_110) rfl (l' := #[.val (.ref a1), .val (.int p2), .val (.int (4 : Int32)), .val (.int v5), .val (.int (128 : Int32)), .val (.int (191 : Int32)), .val (.int (2 : Int32)), .val (.int v66)]) rfl ?_
              show Steps p.tables e below (s₁.setTop (mkF m 112 #[.val (.ref a1), .val (.int p2), .val (.int (4 : Int32)), .val (.int v5), .val (.int (128 : Int32)), .val (.int (191 : Int32)), .val (.int (2 : Int32)), .val (.int v66)] [])) _
              refine XS.sipush X0.here hx rfl (hb hby d3_112) ?_
              show Steps p.tables e below (s₁.setTop (mkF m 115 #[.val (.ref a1), .val (.int p2), .val (.int (4 : Int32)), .val (.int v5), .val (.int (128 : Int32)), .val (.int (191 : Int32)), .val (.int (2 : Int32)), .val (.int v66)] [(.int (191 : Int32))])) _
              refine XS.istore X0.here hx rfl (hb hby d3_115) rfl (l' := #[.val (.ref a1), .val (.int p2), .val (.int (4 : Int32)), .val (.int v5), .val (.int (128 : Int32)), .val (.int (191 : Int32)), .val (.int (2 : Int32)), .val (.int v66)]) rfl ?_
              show Steps p.tables e below (s₁.setTop (mkF m 117 #[.val (.ref a1), .val (.int p2), .val (.int (4 : Int32)), .val (.int v5), .val (.int (128 : Int32)), .val (.int (191 : Int32)), .val (.int (2 : Int32)), .val (.int v66)] [])) _
              refine XS.iinc X0.here hx rfl (hb hby d3_117) rfl (l' := #[.val (.ref a1), .val (.int p2), .val (.int (4 : Int32)), .val (.int v5), .val (.int (128 : Int32)), .val (.int (191 : Int32)), .val (.int (3 : Int32)), .val (.int v66)]) rfl ?_
              show Steps p.tables e below (s₁.setTop (mkF m 120 #[.val (.ref a1), .val (.int p2), .val (.int (4 : Int32)), .val (.int v5), .val (.int (128 : Int32)), .val (.int (191 : Int32)), .val (.int (3 : Int32)), .val (.int v66)] [])) _
              refine XS.goto X0.here hx rfl (pc0 := 120) (pc' := 73) rfl (hb hby d3_120) (by decide) (by decide) ?_
              show Steps p.tables e below (s₁.setTop (mkF m 73 #[.val (.ref a1), .val (.int p2), .val (.int (4 : Int32)), .val (.int v5), .val (.int (128 : Int32)), .val (.int (191 : Int32)), .val (.int (3 : Int32)), .val (.int v66)] [])) _
              refine XS.iload X0.here hx rfl (hb hby d3_73) rfl ?_
              show Steps p.tables e below (s₁.setTop (mkF m 75 #[.val (.ref a1), .val (.int p2), .val (.int (4 : Int32)), .val (.int v5), .val (.int (128 : Int32)), .val (.int (191 : Int32)), .val (.int (3 : Int32)), .val (.int v66)] [(.int (3 : Int32))])) _
              refine XS.iloadN X0.here hx rfl (hb hby d3_75) rfl ?_
              show Steps p.tables e below (s₁.setTop (mkF m 76 #[.val (.ref a1), .val (.int p2), .val (.int (4 : Int32)), .val (.int v5), .val (.int (128 : Int32)), .val (.int (191 : Int32)), .val (.int (3 : Int32)), .val (.int v66)] [(.int (4 : Int32)), (.int (3 : Int32))])) _
              refine XS.icmpNo X0.here hx rfl (hb hby d3_76) rfl (tlt (by decide : (3 : Int32) < (4 : Int32))).2.1 ?_
              exact kq
            have pre74 : ∀ tq, Steps p.tables e below (s₁.setTop (mkF m 84 #[.val (.ref a1), .val (.int p2), .val (.int (4 : Int32)), .val (.int v5), .val (.int (128 : Int32)), .val (.int (191 : Int32)), .val (.int (3 : Int32)), .val (.int v66)] [(.int (p2 + (3 : Int32))), (.ref a1)])) tq → Steps p.tables e below (s₁.setTop (entryFrame m #[(.ref a1), (.int p2), (.int (4 : Int32))] 8)) tq := by
              refine fun tq kq => pre73 tq ?_
              show Steps p.tables e below (s₁.setTop (mkF m 79 #[.val (.ref a1), .val (.int p2), .val (.int (4 : Int32)), .val (.int v5), .val (.int (128 : Int32)), .val (.int (191 : Int32)), .val (.int (3 : Int32)), .val (.int v66)] [])) _
              refine XS.aloadN X0.here hx rfl (hb hby d3_79) rfl rfl ?_
              show Steps p.tables e below (s₁.setTop (mkF m 80 #[.val (.ref a1), .val (.int p2), .val (.int (4 : Int32)), .val (.int v5), .val (.int (128 : Int32)), .val (.int (191 : Int32)), .val (.int (3 : Int32)), .val (.int v66)] [(.ref a1)])) _
              refine XS.iloadN X0.here hx rfl (hb hby d3_80) rfl ?_
              show Steps p.tables e below (s₁.setTop (mkF m 81 #[.val (.ref a1), .val (.int p2), .val (.int (4 : Int32)), .val (.int v5), .val (.int (128 : Int32)), .val (.int (191 : Int32)), .val (.int (3 : Int32)), .val (.int v66)] [(.int p2), (.ref a1)])) _
              refine XS.iload X0.here hx rfl (hb hby d3_81) rfl ?_
              show Steps p.tables e below (s₁.setTop (mkF m 83 #[.val (.ref a1), .val (.int p2), .val (.int (4 : Int32)), .val (.int v5), .val (.int (128 : Int32)), .val (.int (191 : Int32)), .val (.int (3 : Int32)), .val (.int v66)] [(.int (3 : Int32)), (.int p2), (.ref a1)])) _
              refine XS.iadd X0.here hx rfl (hb hby d3_83) rfl ?_
              exact kq
            have Vc75 := V_a1
            obtain ⟨cl75, Ar75, Aq75, As75, An75, Ah75, Ag75⟩ := Vc75
            have hin75 : ¬ ((p2 + (3 : Int32)) < 0 ∨ cl75.slots.size ≤ ((p2 + (3 : Int32))).toNatClampNeg) := inb_of As75 (own_in hbd.1 hbd.2 (by decide) (by decide))
            have pre76 : ∀ tq, Steps p.tables e below (s₁.setTop (mkF m 85 #[.val (.ref a1), .val (.int p2), .val (.int (4 : Int32)), .val (.int v5), .val (.int (128 : Int32)), .val (.int (191 : Int32)), .val (.int (3 : Int32)), .val (.int v66)] [(.int y3)])) tq → Steps p.tables e below (s₁.setTop (entryFrame m #[(.ref a1), (.int p2), (.int (4 : Int32))] 8)) tq := fun tq kq => pre74 tq (X0.baloadBytes hx (j := (p2 + (3 : Int32))) (v := (.int y3)) (by rw [e0]; exact Ar75.1) (State.isArrayOf_alike hZ.alike Ar75.2.1) Ar75.2.2 hin75 (Has.at Ah75 hin75 hat3) (g := (mkF m 84 #[.val (.ref a1), .val (.int p2), .val (.int (4 : Int32)), .val (.int v5), .val (.int (128 : Int32)), .val (.int (191 : Int32)), .val (.int (3 : Int32)), .val (.int v66)] [(.int (p2 + (3 : Int32))), (.ref a1)])) rfl rfl (hb hby d3_84) _ kq)
            obtain ⟨v78, hv_v78, pre77⟩ : ∃ v78 : Int32, v78 = (y3 &&& (255 : Int32)) ∧ (∀ tq, Steps p.tables e below (s₁.setTop (mkF m 91 #[.val (.ref a1), .val (.int p2), .val (.int (4 : Int32)), .val (.int v5), .val (.int (128 : Int32)), .val (.int (191 : Int32)), .val (.int (3 : Int32)), .val (.int v78)] [])) tq → Steps p.tables e below (s₁.setTop (entryFrame m #[(.ref a1), (.int p2), (.int (4 : Int32))] 8)) tq) := by
              refine ⟨_, rfl, fun tq kq => pre76 tq ?_⟩
              show Steps p.tables e below (s₁.setTop (mkF m 85 #[.val (.ref a1), .val (.int p2), .val (.int (4 : Int32)), .val (.int v5), .val (.int (128 : Int32)), .val (.int (191 : Int32)), .val (.int (3 : Int32)), .val (.int v66)] [(.int y3)])) _
              refine XS.sipush X0.here hx rfl (hb hby d3_85) ?_
              show Steps p.tables e below (s₁.setTop (mkF m 88 #[.val (.ref a1), .val (.int p2), .val (.int (4 : Int32)), .val (.int v5), .val (.int (128 : Int32)), .val (.int (191 : Int32)), .val (.int (3 : Int32)), .val (.int v66)] [(.int (255 : Int32)), (.int y3)])) _
              refine XS.iand X0.here hx rfl (hb hby d3_88) rfl ?_
              show Steps p.tables e below (s₁.setTop (mkF m 89 #[.val (.ref a1), .val (.int p2), .val (.int (4 : Int32)), .val (.int v5), .val (.int (128 : Int32)), .val (.int (191 : Int32)), .val (.int (3 : Int32)), .val (.int v66)] [(.int (y3 &&& (255 : Int32)))])) _
              refine XS.istore X0.here hx rfl (hb hby d3_89) rfl (l' := #[.val (.ref a1), .val (.int p2), .val (.int (4 : Int32)), .val (.int v5), .val (.int (128 : Int32)), .val (.int (191 : Int32)), .val (.int (3 : Int32)), .val (.int (y3 &&& (255 : Int32)))]) rfl ?_
              exact kq
            have pre79 : ∀ tq, Steps p.tables e below (s₁.setTop (mkF m 95 #[.val (.ref a1), .val (.int p2), .val (.int (4 : Int32)), .val (.int v5), .val (.int (128 : Int32)), .val (.int (191 : Int32)), .val (.int (3 : Int32)), .val (.int v78)] [(.int (128 : Int32)), (.int v78)])) tq → Steps p.tables e below (s₁.setTop (entryFrame m #[(.ref a1), (.int p2), (.int (4 : Int32))] 8)) tq := by
              refine fun tq kq => pre77 tq ?_
              show Steps p.tables e below (s₁.setTop (mkF m 91 #[.val (.ref a1), .val (.int p2), .val (.int (4 : Int32)), .val (.int v5), .val (.int (128 : Int32)), .val (.int (191 : Int32)), .val (.int (3 : Int32)), .val (.int v78)] [])) _
              refine XS.iload X0.here hx rfl (hb hby d3_91) rfl ?_
              show Steps p.tables e below (s₁.setTop (mkF m 93 #[.val (.ref a1), .val (.int p2), .val (.int (4 : Int32)), .val (.int v5), .val (.int (128 : Int32)), .val (.int (191 : Int32)), .val (.int (3 : Int32)), .val (.int v78)] [(.int v78)])) _
              refine XS.iload X0.here hx rfl (hb hby d3_93) rfl ?_
              exact kq
            by_cases hc95'' : v78 < (128 : Int32)
            · skip
              have pre80 : ∀ tq, Steps p.tables e below (s₁.setTop (mkF m 105 #[.val (.ref a1), .val (.int p2), .val (.int (4 : Int32)), .val (.int v5), .val (.int (128 : Int32)), .val (.int (191 : Int32)), .val (.int (3 : Int32)), .val (.int v78)] [])) tq → Steps p.tables e below (s₁.setTop (entryFrame m #[(.ref a1), (.int p2), (.int (4 : Int32))] 8)) tq := by
                refine fun tq kq => pre79 tq ?_
                show Steps p.tables e below (s₁.setTop (mkF m 95 #[.val (.ref a1), .val (.int p2), .val (.int (4 : Int32)), .val (.int v5), .val (.int (128 : Int32)), .val (.int (191 : Int32)), .val (.int (3 : Int32)), .val (.int v78)] [(.int (128 : Int32)), (.int v78)])) _
                refine XS.icmpYes X0.here hx rfl (pc0 := 95) (pc' := 105) rfl (hb hby d3_95) rfl (tlt hc95'').1 (by decide) (by decide) ?_
                exact kq
              obtain ⟨fs, hr, hrun, hended, hW, hsame⟩ := X0.leave (v := some (.int (0 : Int32))) (fun h => by rw [Bd.returns] at h; cases h)
              refine ⟨_, _, pre80 _ ?_, hrun, hended, _, _, rfl, ?_, ⟨_, rfl⟩, hW, hsame.mono (by decide) (by decide)⟩
              · skip
                show Steps p.tables e below (s₁.setTop (mkF m 105 #[.val (.ref a1), .val (.int p2), .val (.int (4 : Int32)), .val (.int v5), .val (.int (128 : Int32)), .val (.int (191 : Int32)), .val (.int (3 : Int32)), .val (.int v78)] [])) _
                refine XS.iconst X0.here hx rfl (hb hby d3_105) ?_
                show Steps p.tables e below (s₁.setTop (mkF m 106 #[.val (.ref a1), .val (.int p2), .val (.int (4 : Int32)), .val (.int v5), .val (.int (128 : Int32)), .val (.int (191 : Int32)), .val (.int (3 : Int32)), .val (.int v78)] [(.int (0 : Int32))])) _
                exact retN X0 hx (t := .boolean) Bd.returns (by simp) (hb hby d3_106) hr
              · show Q3 Z a1 p2 (4 : Int32) k vs dv y0 y1 y2 y3 h0 n0 _ s₁.heap _
                rw [e0]
                refine ⟨(0 : Int32), rfl, N0, rfl, ?_⟩
                simp only [Int32.lt_iff_toInt_lt, ← Int32.toInt_inj, Int32.reduceToInt, true_and, and_true, false_and, and_false, or_false, false_or, not_true_eq_false, not_false_eq_true, true_implies, false_implies] at hv_v5 hj7 hj9 hv_v54 hc95 hc102 hv_v66 hc95' hc102' hv_v78 hc95'' ⊢ <;> omega
            · skip
              have pre81 : ∀ tq, Steps p.tables e below (s₁.setTop (mkF m 98 #[.val (.ref a1), .val (.int p2), .val (.int (4 : Int32)), .val (.int v5), .val (.int (128 : Int32)), .val (.int (191 : Int32)), .val (.int (3 : Int32)), .val (.int v78)] [])) tq → Steps p.tables e below (s₁.setTop (entryFrame m #[(.ref a1), (.int p2), (.int (4 : Int32))] 8)) tq := by
                refine fun tq kq => pre79 tq ?_
                show Steps p.tables e below (s₁.setTop (mkF m 95 #[.val (.ref a1), .val (.int p2), .val (.int (4 : Int32)), .val (.int v5), .val (.int (128 : Int32)), .val (.int (191 : Int32)), .val (.int (3 : Int32)), .val (.int v78)] [(.int (128 : Int32)), (.int v78)])) _
                refine XS.icmpNo X0.here hx rfl (hb hby d3_95) rfl (flt hc95'').1 ?_
                exact kq
              have pre82 : ∀ tq, Steps p.tables e below (s₁.setTop (mkF m 102 #[.val (.ref a1), .val (.int p2), .val (.int (4 : Int32)), .val (.int v5), .val (.int (128 : Int32)), .val (.int (191 : Int32)), .val (.int (3 : Int32)), .val (.int v78)] [(.int (191 : Int32)), (.int v78)])) tq → Steps p.tables e below (s₁.setTop (entryFrame m #[(.ref a1), (.int p2), (.int (4 : Int32))] 8)) tq := by
                refine fun tq kq => pre81 tq ?_
                show Steps p.tables e below (s₁.setTop (mkF m 98 #[.val (.ref a1), .val (.int p2), .val (.int (4 : Int32)), .val (.int v5), .val (.int (128 : Int32)), .val (.int (191 : Int32)), .val (.int (3 : Int32)), .val (.int v78)] [])) _
                refine XS.iload X0.here hx rfl (hb hby d3_98) rfl ?_
                show Steps p.tables e below (s₁.setTop (mkF m 100 #[.val (.ref a1), .val (.int p2), .val (.int (4 : Int32)), .val (.int v5), .val (.int (128 : Int32)), .val (.int (191 : Int32)), .val (.int (3 : Int32)), .val (.int v78)] [(.int v78)])) _
                refine XS.iload X0.here hx rfl (hb hby d3_100) rfl ?_
                exact kq
              by_cases hc102'' : (191 : Int32) < v78
              · skip
                have pre83 : ∀ tq, Steps p.tables e below (s₁.setTop (mkF m 105 #[.val (.ref a1), .val (.int p2), .val (.int (4 : Int32)), .val (.int v5), .val (.int (128 : Int32)), .val (.int (191 : Int32)), .val (.int (3 : Int32)), .val (.int v78)] [])) tq → Steps p.tables e below (s₁.setTop (entryFrame m #[(.ref a1), (.int p2), (.int (4 : Int32))] 8)) tq := by
                  refine fun tq kq => pre82 tq ?_
                  show Steps p.tables e below (s₁.setTop (mkF m 102 #[.val (.ref a1), .val (.int p2), .val (.int (4 : Int32)), .val (.int v5), .val (.int (128 : Int32)), .val (.int (191 : Int32)), .val (.int (3 : Int32)), .val (.int v78)] [(.int (191 : Int32)), (.int v78)])) _
                  refine XS.icmpNo X0.here hx rfl (hb hby d3_102) rfl (tlt hc102'').2.2.2 ?_
                  exact kq
                obtain ⟨fs, hr, hrun, hended, hW, hsame⟩ := X0.leave (v := some (.int (0 : Int32))) (fun h => by rw [Bd.returns] at h; cases h)
                refine ⟨_, _, pre83 _ ?_, hrun, hended, _, _, rfl, ?_, ⟨_, rfl⟩, hW, hsame.mono (by decide) (by decide)⟩
                · skip
                  show Steps p.tables e below (s₁.setTop (mkF m 105 #[.val (.ref a1), .val (.int p2), .val (.int (4 : Int32)), .val (.int v5), .val (.int (128 : Int32)), .val (.int (191 : Int32)), .val (.int (3 : Int32)), .val (.int v78)] [])) _
                  refine XS.iconst X0.here hx rfl (hb hby d3_105) ?_
                  show Steps p.tables e below (s₁.setTop (mkF m 106 #[.val (.ref a1), .val (.int p2), .val (.int (4 : Int32)), .val (.int v5), .val (.int (128 : Int32)), .val (.int (191 : Int32)), .val (.int (3 : Int32)), .val (.int v78)] [(.int (0 : Int32))])) _
                  exact retN X0 hx (t := .boolean) Bd.returns (by simp) (hb hby d3_106) hr
                · show Q3 Z a1 p2 (4 : Int32) k vs dv y0 y1 y2 y3 h0 n0 _ s₁.heap _
                  rw [e0]
                  refine ⟨(0 : Int32), rfl, N0, rfl, ?_⟩
                  simp only [Int32.lt_iff_toInt_lt, ← Int32.toInt_inj, Int32.reduceToInt, true_and, and_true, false_and, and_false, or_false, false_or, not_true_eq_false, not_false_eq_true, true_implies, false_implies] at hv_v5 hj7 hj9 hv_v54 hc95 hc102 hv_v66 hc95' hc102' hv_v78 hc95'' hc102'' ⊢ <;> omega
              · skip
                have pre84 : ∀ tq, Steps p.tables e below (s₁.setTop (mkF m 107 #[.val (.ref a1), .val (.int p2), .val (.int (4 : Int32)), .val (.int v5), .val (.int (128 : Int32)), .val (.int (191 : Int32)), .val (.int (3 : Int32)), .val (.int v78)] [])) tq → Steps p.tables e below (s₁.setTop (entryFrame m #[(.ref a1), (.int p2), (.int (4 : Int32))] 8)) tq := by
                  refine fun tq kq => pre82 tq ?_
                  show Steps p.tables e below (s₁.setTop (mkF m 102 #[.val (.ref a1), .val (.int p2), .val (.int (4 : Int32)), .val (.int v5), .val (.int (128 : Int32)), .val (.int (191 : Int32)), .val (.int (3 : Int32)), .val (.int v78)] [(.int (191 : Int32)), (.int v78)])) _
                  refine XS.icmpYes X0.here hx rfl (pc0 := 102) (pc' := 107) rfl (hb hby d3_102) rfl (flt hc102'').2.2.2 (by decide) (by decide) ?_
                  exact kq
                have pre85 : ∀ tq, Steps p.tables e below (s₁.setTop (mkF m 123 #[.val (.ref a1), .val (.int p2), .val (.int (4 : Int32)), .val (.int v5), .val (.int (128 : Int32)), .val (.int (191 : Int32)), .val (.int (4 : Int32)), .val (.int v78)] [])) tq → Steps p.tables e below (s₁.setTop (entryFrame m #[(.ref a1), (.int p2), (.int (4 : Int32))] 8)) tq := by
                  refine fun tq kq => pre84 tq ?_
                  show Steps p.tables e below (s₁.setTop (mkF m 107 #[.val (.ref a1), .val (.int p2), .val (.int (4 : Int32)), .val (.int v5), .val (.int (128 : Int32)), .val (.int (191 : Int32)), .val (.int (3 : Int32)), .val (.int v78)] [])) _
                  refine XS.sipush X0.here hx rfl (hb hby d3_107) ?_
                  show Steps p.tables e below (s₁.setTop (mkF m 110 #[.val (.ref a1), .val (.int p2), .val (.int (4 : Int32)), .val (.int v5), .val (.int (128 : Int32)), .val (.int (191 : Int32)), .val (.int (3 : Int32)), .val (.int v78)] [(.int (128 : Int32))])) _
                  refine XS.istore X0.here hx rfl (hb hby d3_110) rfl (l' := #[.val (.ref a1), .val (.int p2), .val (.int (4 : Int32)), .val (.int v5), .val (.int (128 : Int32)), .val (.int (191 : Int32)), .val (.int (3 : Int32)), .val (.int v78)]) rfl ?_
                  show Steps p.tables e below (s₁.setTop (mkF m 112 #[.val (.ref a1), .val (.int p2), .val (.int (4 : Int32)), .val (.int v5), .val (.int (128 : Int32)), .val (.int (191 : Int32)), .val (.int (3 : Int32)), .val (.int v78)] [])) _
                  refine XS.sipush X0.here hx rfl (hb hby d3_112) ?_
                  show Steps p.tables e below (s₁.setTop (mkF m 115 #[.val (.ref a1), .val (.int p2), .val (.int (4 : Int32)), .val (.int v5), .val (.int (128 : Int32)), .val (.int (191 : Int32)), .val (.int (3 : Int32)), .val (.int v78)] [(.int (191 : Int32))])) _
                  refine XS.istore X0.here hx rfl (hb hby d3_115) rfl (l' := #[.val (.ref a1), .val (.int p2), .val (.int (4 : Int32)), .val (.int v5), .val (.int (128 : Int32)), .val (.int (191 : Int32)), .val (.int (3 : Int32)), .val (.int v78)]) rfl ?_
                  show Steps p.tables e below (s₁.setTop (mkF m 117 #[.val (.ref a1), .val (.int p2), .val (.int (4 : Int32)), .val (.int v5), .val (.int (128 : Int32)), .val (.int (191 : Int32)), .val (.int (3 : Int32)), .val (.int v78)] [])) _
                  refine XS.iinc X0.here hx rfl (hb hby d3_117) rfl (l' := #[.val (.ref a1), .val (.int p2), .val (.int (4 : Int32)), .val (.int v5), .val (.int (128 : Int32)), .val (.int (191 : Int32)), .val (.int (4 : Int32)), .val (.int v78)]) rfl ?_
                  show Steps p.tables e below (s₁.setTop (mkF m 120 #[.val (.ref a1), .val (.int p2), .val (.int (4 : Int32)), .val (.int v5), .val (.int (128 : Int32)), .val (.int (191 : Int32)), .val (.int (4 : Int32)), .val (.int v78)] [])) _
                  refine XS.goto X0.here hx rfl (pc0 := 120) (pc' := 73) rfl (hb hby d3_120) (by decide) (by decide) ?_
                  show Steps p.tables e below (s₁.setTop (mkF m 73 #[.val (.ref a1), .val (.int p2), .val (.int (4 : Int32)), .val (.int v5), .val (.int (128 : Int32)), .val (.int (191 : Int32)), .val (.int (4 : Int32)), .val (.int v78)] [])) _
                  refine XS.iload X0.here hx rfl (hb hby d3_73) rfl ?_
                  show Steps p.tables e below (s₁.setTop (mkF m 75 #[.val (.ref a1), .val (.int p2), .val (.int (4 : Int32)), .val (.int v5), .val (.int (128 : Int32)), .val (.int (191 : Int32)), .val (.int (4 : Int32)), .val (.int v78)] [(.int (4 : Int32))])) _
                  refine XS.iloadN X0.here hx rfl (hb hby d3_75) rfl ?_
                  show Steps p.tables e below (s₁.setTop (mkF m 76 #[.val (.ref a1), .val (.int p2), .val (.int (4 : Int32)), .val (.int v5), .val (.int (128 : Int32)), .val (.int (191 : Int32)), .val (.int (4 : Int32)), .val (.int v78)] [(.int (4 : Int32)), (.int (4 : Int32))])) _
                  refine XS.icmpYes X0.here hx rfl (pc0 := 76) (pc' := 123) rfl (hb hby d3_76) rfl (flt (by decide : ¬ ((4 : Int32) < (4 : Int32)))).2.1 (by decide) (by decide) ?_
                  exact kq
                obtain ⟨fs, hr, hrun, hended, hW, hsame⟩ := X0.leave (v := some (.int (1 : Int32))) (fun h => by rw [Bd.returns] at h; cases h)
                refine ⟨_, _, pre85 _ ?_, hrun, hended, _, _, rfl, ?_, ⟨_, rfl⟩, hW, hsame.mono (by decide) (by decide)⟩
                · skip
                  show Steps p.tables e below (s₁.setTop (mkF m 123 #[.val (.ref a1), .val (.int p2), .val (.int (4 : Int32)), .val (.int v5), .val (.int (128 : Int32)), .val (.int (191 : Int32)), .val (.int (4 : Int32)), .val (.int v78)] [])) _
                  refine XS.iconst X0.here hx rfl (hb hby d3_123) ?_
                  show Steps p.tables e below (s₁.setTop (mkF m 124 #[.val (.ref a1), .val (.int p2), .val (.int (4 : Int32)), .val (.int v5), .val (.int (128 : Int32)), .val (.int (191 : Int32)), .val (.int (4 : Int32)), .val (.int v78)] [(.int (1 : Int32))])) _
                  exact retN X0 hx (t := .boolean) Bd.returns (by simp) (hb hby d3_124) hr
                · show Q3 Z a1 p2 (4 : Int32) k vs dv y0 y1 y2 y3 h0 n0 _ s₁.heap _
                  rw [e0]
                  refine ⟨(1 : Int32), rfl, N0, rfl, ?_⟩
                  simp only [Int32.lt_iff_toInt_lt, ← Int32.toInt_inj, Int32.reduceToInt, true_and, and_true, false_and, and_false, or_false, false_or, not_true_eq_false, not_false_eq_true, true_implies, false_implies] at hv_v5 hj7 hj9 hv_v54 hc95 hc102 hv_v66 hc95' hc102' hv_v78 hc95'' hc102'' ⊢ <;> omega
/-! body 0 -/
theorem pn_0 : plainName "com/example/partwise/partwise/storage/Utf8ContinuesSequencePinLaw" = true := by first | (simp [plainName, overriddenIn]; done) | decide +kernel
theorem pd0_0 : parseMethodDescriptor "(IIIII)Z" = some ⟨[.int, .int, .int, .int, .int], some .boolean⟩ := by decide +kernel
theorem pd0_1 : parseMethodDescriptor "([BII)Z" = some ⟨[(.array .byte), .int, .int], some .boolean⟩ := by decide +kernel
theorem ef_0 (m : MethodId) (p1 : Int32) (p2 : Int32) (p3 : Int32) (p4 : Int32) : entryFrame m #[(.int p1), (.int p2), (.int p3), (.int p4)] maxLocals = mkF m 0 #[.val (.int p1), .val (.int p2), .val (.int p3), .val (.int p4), .unset, .unset, .unset, .unset, .unset, .unset, .unset, .unset, .unset, .unset] [] := by first | (simp [entryFrame, mkF, argsToLocals, Value.category, maxLocals]; done) | rfl
def Q0 (Z : State) (p1 : Int32) (p2 : Int32) (p3 : Int32) (p4 : Int32) (h0 : Heap) (n0 : Nat) (v : Option Value) (h : Heap) (L : List Loc) : Prop := v = some (.int 1) ∧ Fr n0 L
set_option maxRecDepth 65536 in
set_option maxHeartbeats 40000000 in
theorem rm0 (l : Launch) (Z : State) (a0 : Array Value) (hw : ∀ d ∈ tables_1, d.before a0 Z = true) (ws : List Jvm.Cond) (p1 : Int32) (p2 : Int32) (p3 : Int32) (p4 : Int32) (h0 : Heap) (n0 : Nat) (Z0 : n0 ≤ h0.size)  :
    MetFree l x (head1 (Jvm.Cond.code x code maxLocals ret :: ws) room_1) (fun a U => a = #[(.int p1), (.int p2), (.int p3), (.int p4)] ∧ Z.Warmed39 U.vm ∧ U.heap = h0) (fun _ _ _ _ _ => True) (fun _ U o U' => ∃ v L, o = .returned v ∧ Q0 Z p1 p2 p3 p4 h0 n0 v U'.heap L ∧ FrameEnd U o U' L room_1.cells room_1.slots) := by
  refine MetFree.of_bodySF (plainFor_of_name pn_0) hisR ?_
  intro p e s m args below meth c s₁ Bd hml0 hP hK
  obtain ⟨rfl, hZ, hh⟩ := hP
  have hx := Bd.exec
  have hby := Bd.bytes
  have hml : c.maxLocals = 14 := hml0
  have hown : s.vm.findClass "com/example/partwise/partwise/storage/Utf8ContinuesSequencePinLaw" = some m.cls := findClass_of_methodNamed Bd.named
  have hnm := (name_of_methodNamed Bd.named Bd.method).1
  have X0 : Stand p l e room_1 s m #[(.int p1), (.int p2), (.int p3), (.int p4)] below meth c s₁ [] 0 0 := Stand.of_body Bd
  have e0 : s₁.heap = h0 := by rw [← hh, Bd.state]; rfl
  have N0 := Fr.nil n0
  have pre0 : ∀ tq, Steps p.tables e below (s₁.setTop (mkF m 0 #[.val (.int p1), .val (.int p2), .val (.int p3), .val (.int p4), .unset, .unset, .unset, .unset, .unset, .unset, .unset, .unset, .unset, .unset] [])) tq → Steps p.tables e below (s₁.setTop (entryFrame m #[(.int p1), (.int p2), (.int p3), (.int p4)] maxLocals)) tq := fun tq kq => castTop (ef_0 m p1 p2 p3 p4) kq
  obtain ⟨v2, hv_v2, pre1⟩ : ∃ v2 : Int32, v2 = ((194 : Int32) + ((p1 &&& (2147483647 : Int32)) - ((p1 &&& (2147483647 : Int32)) / (51 : Int32)) * (51 : Int32))) ∧ (∀ tq, Steps p.tables e below (s₁.setTop (mkF m 13 #[.val (.int p1), .val (.int p2), .val (.int p3), .val (.int p4), .val (.int v2), .unset, .unset, .unset, .unset, .unset, .unset, .unset, .unset, .unset] [])) tq → Steps p.tables e below (s₁.setTop (entryFrame m #[(.int p1), (.int p2), (.int p3), (.int p4)] maxLocals)) tq) := by
    refine ⟨_, rfl, fun tq kq => pre0 tq ?_⟩
    show Steps p.tables e below (s₁.setTop (mkF m 0 #[.val (.int p1), .val (.int p2), .val (.int p3), .val (.int p4), .unset, .unset, .unset, .unset, .unset, .unset, .unset, .unset, .unset, .unset] [])) _
    refine XS.sipush X0.here hx rfl (hb hby at_0) ?_
    show Steps p.tables e below (s₁.setTop (mkF m 3 #[.val (.int p1), .val (.int p2), .val (.int p3), .val (.int p4), .unset, .unset, .unset, .unset, .unset, .unset, .unset, .unset, .unset, .unset] [(.int (194 : Int32))])) _
    refine XS.iloadN X0.here hx rfl (hb hby at_3) rfl ?_
    show Steps p.tables e below (s₁.setTop (mkF m 4 #[.val (.int p1), .val (.int p2), .val (.int p3), .val (.int p4), .unset, .unset, .unset, .unset, .unset, .unset, .unset, .unset, .unset, .unset] [(.int p1), (.int (194 : Int32))])) _
    refine X0.ldcInt hx hown (mvT hZ (hw _ (List.mem_of_getElem? (i := 0) rfl))) (g := (mkF m 4 #[.val (.int p1), .val (.int p2), .val (.int p3), .val (.int p4), .unset, .unset, .unset, .unset, .unset, .unset, .unset, .unset, .unset, .unset] [(.int p1), (.int (194 : Int32))])) rfl (hb hby at_4) _ ?_
    show Steps p.tables e below (s₁.setTop (mkF m 6 #[.val (.int p1), .val (.int p2), .val (.int p3), .val (.int p4), .unset, .unset, .unset, .unset, .unset, .unset, .unset, .unset, .unset, .unset] [(.int (2147483647 : Int32)), (.int p1), (.int (194 : Int32))])) _
    refine XS.iand X0.here hx rfl (hb hby at_6) rfl ?_
    show Steps p.tables e below (s₁.setTop (mkF m 7 #[.val (.int p1), .val (.int p2), .val (.int p3), .val (.int p4), .unset, .unset, .unset, .unset, .unset, .unset, .unset, .unset, .unset, .unset] [(.int (p1 &&& (2147483647 : Int32))), (.int (194 : Int32))])) _
    refine XS.bipush X0.here hx rfl (hb hby at_7) ?_
    show Steps p.tables e below (s₁.setTop (mkF m 9 #[.val (.int p1), .val (.int p2), .val (.int p3), .val (.int p4), .unset, .unset, .unset, .unset, .unset, .unset, .unset, .unset, .unset, .unset] [(.int (51 : Int32)), (.int (p1 &&& (2147483647 : Int32))), (.int (194 : Int32))])) _
    refine XS.irem X0.here hx rfl (hb hby at_9) rfl (by decide) ?_
    show Steps p.tables e below (s₁.setTop (mkF m 10 #[.val (.int p1), .val (.int p2), .val (.int p3), .val (.int p4), .unset, .unset, .unset, .unset, .unset, .unset, .unset, .unset, .unset, .unset] [(.int ((p1 &&& (2147483647 : Int32)) - ((p1 &&& (2147483647 : Int32)) / (51 : Int32)) * (51 : Int32))), (.int (194 : Int32))])) _
    refine XS.iadd X0.here hx rfl (hb hby at_10) rfl ?_
    show Steps p.tables e below (s₁.setTop (mkF m 11 #[.val (.int p1), .val (.int p2), .val (.int p3), .val (.int p4), .unset, .unset, .unset, .unset, .unset, .unset, .unset, .unset, .unset, .unset] [(.int ((194 : Int32) + ((p1 &&& (2147483647 : Int32)) - ((p1 &&& (2147483647 : Int32)) / (51 : Int32)) * (51 : Int32))))])) _
    refine XS.istore X0.here hx rfl (hb hby at_11) rfl (l' := #[.val (.int p1), .val (.int p2), .val (.int p3), .val (.int p4), .val (.int ((194 : Int32) + ((p1 &&& (2147483647 : Int32)) - ((p1 &&& (2147483647 : Int32)) / (51 : Int32)) * (51 : Int32)))), .unset, .unset, .unset, .unset, .unset, .unset, .unset, .unset, .unset]) rfl ?_
    exact kq
  have hlead := own_lead p1
  rw [← hv_v2] at hlead
  obtain ⟨v4, hv_v4, pre3⟩ : ∃ v4 : Int32, v4 = (p2 &&& (255 : Int32)) ∧ (∀ tq, Steps p.tables e below (s₁.setTop (mkF m 20 #[.val (.int p1), .val (.int p2), .val (.int p3), .val (.int p4), .val (.int v2), .val (.int v4), .unset, .unset, .unset, .unset, .unset, .unset, .unset, .unset] [])) tq → Steps p.tables e below (s₁.setTop (entryFrame m #[(.int p1), (.int p2), (.int p3), (.int p4)] maxLocals)) tq) := by
    refine ⟨_, rfl, fun tq kq => pre1 tq ?_⟩
    show Steps p.tables e below (s₁.setTop (mkF m 13 #[.val (.int p1), .val (.int p2), .val (.int p3), .val (.int p4), .val (.int v2), .unset, .unset, .unset, .unset, .unset, .unset, .unset, .unset, .unset] [])) _
    refine XS.iloadN X0.here hx rfl (hb hby at_13) rfl ?_
    show Steps p.tables e below (s₁.setTop (mkF m 14 #[.val (.int p1), .val (.int p2), .val (.int p3), .val (.int p4), .val (.int v2), .unset, .unset, .unset, .unset, .unset, .unset, .unset, .unset, .unset] [(.int p2)])) _
    refine XS.sipush X0.here hx rfl (hb hby at_14) ?_
    show Steps p.tables e below (s₁.setTop (mkF m 17 #[.val (.int p1), .val (.int p2), .val (.int p3), .val (.int p4), .val (.int v2), .unset, .unset, .unset, .unset, .unset, .unset, .unset, .unset, .unset] [(.int (255 : Int32)), (.int p2)])) _
    refine XS.iand X0.here hx rfl (hb hby at_17) rfl ?_
    show Steps p.tables e below (s₁.setTop (mkF m 18 #[.val (.int p1), .val (.int p2), .val (.int p3), .val (.int p4), .val (.int v2), .unset, .unset, .unset, .unset, .unset, .unset, .unset, .unset, .unset] [(.int (p2 &&& (255 : Int32)))])) _
    refine XS.istore X0.here hx rfl (hb hby at_18) rfl (l' := #[.val (.int p1), .val (.int p2), .val (.int p3), .val (.int p4), .val (.int v2), .val (.int (p2 &&& (255 : Int32))), .unset, .unset, .unset, .unset, .unset, .unset, .unset, .unset]) rfl ?_
    exact kq
  obtain ⟨v6, hv_v6, pre5⟩ : ∃ v6 : Int32, v6 = (((p2.toUInt32 >>> ((8 : Int32) &&& 31).toUInt32).toInt32) &&& (255 : Int32)) ∧ (∀ tq, Steps p.tables e below (s₁.setTop (mkF m 30 #[.val (.int p1), .val (.int p2), .val (.int p3), .val (.int p4), .val (.int v2), .val (.int v4), .val (.int v6), .unset, .unset, .unset, .unset, .unset, .unset, .unset] [])) tq → Steps p.tables e below (s₁.setTop (entryFrame m #[(.int p1), (.int p2), (.int p3), (.int p4)] maxLocals)) tq) := by
    refine ⟨_, rfl, fun tq kq => pre3 tq ?_⟩
    show Steps p.tables e below (s₁.setTop (mkF m 20 #[.val (.int p1), .val (.int p2), .val (.int p3), .val (.int p4), .val (.int v2), .val (.int v4), .unset, .unset, .unset, .unset, .unset, .unset, .unset, .unset] [])) _
    refine XS.iloadN X0.here hx rfl (hb hby at_20) rfl ?_
    show Steps p.tables e below (s₁.setTop (mkF m 21 #[.val (.int p1), .val (.int p2), .val (.int p3), .val (.int p4), .val (.int v2), .val (.int v4), .unset, .unset, .unset, .unset, .unset, .unset, .unset, .unset] [(.int p2)])) _
    refine XS.bipush X0.here hx rfl (hb hby at_21) ?_
    show Steps p.tables e below (s₁.setTop (mkF m 23 #[.val (.int p1), .val (.int p2), .val (.int p3), .val (.int p4), .val (.int v2), .val (.int v4), .unset, .unset, .unset, .unset, .unset, .unset, .unset, .unset] [(.int (8 : Int32)), (.int p2)])) _
    refine XS.iushr X0.here hx rfl (hb hby at_23) rfl ?_
    show Steps p.tables e below (s₁.setTop (mkF m 24 #[.val (.int p1), .val (.int p2), .val (.int p3), .val (.int p4), .val (.int v2), .val (.int v4), .unset, .unset, .unset, .unset, .unset, .unset, .unset, .unset] [(.int ((p2.toUInt32 >>> ((8 : Int32) &&& 31).toUInt32).toInt32))])) _
    refine XS.sipush X0.here hx rfl (hb hby at_24) ?_
    show Steps p.tables e below (s₁.setTop (mkF m 27 #[.val (.int p1), .val (.int p2), .val (.int p3), .val (.int p4), .val (.int v2), .val (.int v4), .unset, .unset, .unset, .unset, .unset, .unset, .unset, .unset] [(.int (255 : Int32)), (.int ((p2.toUInt32 >>> ((8 : Int32) &&& 31).toUInt32).toInt32))])) _
    refine XS.iand X0.here hx rfl (hb hby at_27) rfl ?_
    show Steps p.tables e below (s₁.setTop (mkF m 28 #[.val (.int p1), .val (.int p2), .val (.int p3), .val (.int p4), .val (.int v2), .val (.int v4), .unset, .unset, .unset, .unset, .unset, .unset, .unset, .unset] [(.int (((p2.toUInt32 >>> ((8 : Int32) &&& 31).toUInt32).toInt32) &&& (255 : Int32)))])) _
    refine XS.istore X0.here hx rfl (hb hby at_28) rfl (l' := #[.val (.int p1), .val (.int p2), .val (.int p3), .val (.int p4), .val (.int v2), .val (.int v4), .val (.int (((p2.toUInt32 >>> ((8 : Int32) &&& 31).toUInt32).toInt32) &&& (255 : Int32))), .unset, .unset, .unset, .unset, .unset, .unset, .unset]) rfl ?_
    exact kq
  obtain ⟨v8, hv_v8, pre7⟩ : ∃ v8 : Int32, v8 = (((p2.toUInt32 >>> ((16 : Int32) &&& 31).toUInt32).toInt32) &&& (255 : Int32)) ∧ (∀ tq, Steps p.tables e below (s₁.setTop (mkF m 40 #[.val (.int p1), .val (.int p2), .val (.int p3), .val (.int p4), .val (.int v2), .val (.int v4), .val (.int v6), .val (.int v8), .unset, .unset, .unset, .unset, .unset, .unset] [])) tq → Steps p.tables e below (s₁.setTop (entryFrame m #[(.int p1), (.int p2), (.int p3), (.int p4)] maxLocals)) tq) := by
    refine ⟨_, rfl, fun tq kq => pre5 tq ?_⟩
    show Steps p.tables e below (s₁.setTop (mkF m 30 #[.val (.int p1), .val (.int p2), .val (.int p3), .val (.int p4), .val (.int v2), .val (.int v4), .val (.int v6), .unset, .unset, .unset, .unset, .unset, .unset, .unset] [])) _
    refine XS.iloadN X0.here hx rfl (hb hby at_30) rfl ?_
    show Steps p.tables e below (s₁.setTop (mkF m 31 #[.val (.int p1), .val (.int p2), .val (.int p3), .val (.int p4), .val (.int v2), .val (.int v4), .val (.int v6), .unset, .unset, .unset, .unset, .unset, .unset, .unset] [(.int p2)])) _
    refine XS.bipush X0.here hx rfl (hb hby at_31) ?_
    show Steps p.tables e below (s₁.setTop (mkF m 33 #[.val (.int p1), .val (.int p2), .val (.int p3), .val (.int p4), .val (.int v2), .val (.int v4), .val (.int v6), .unset, .unset, .unset, .unset, .unset, .unset, .unset] [(.int (16 : Int32)), (.int p2)])) _
    refine XS.iushr X0.here hx rfl (hb hby at_33) rfl ?_
    show Steps p.tables e below (s₁.setTop (mkF m 34 #[.val (.int p1), .val (.int p2), .val (.int p3), .val (.int p4), .val (.int v2), .val (.int v4), .val (.int v6), .unset, .unset, .unset, .unset, .unset, .unset, .unset] [(.int ((p2.toUInt32 >>> ((16 : Int32) &&& 31).toUInt32).toInt32))])) _
    refine XS.sipush X0.here hx rfl (hb hby at_34) ?_
    show Steps p.tables e below (s₁.setTop (mkF m 37 #[.val (.int p1), .val (.int p2), .val (.int p3), .val (.int p4), .val (.int v2), .val (.int v4), .val (.int v6), .unset, .unset, .unset, .unset, .unset, .unset, .unset] [(.int (255 : Int32)), (.int ((p2.toUInt32 >>> ((16 : Int32) &&& 31).toUInt32).toInt32))])) _
    refine XS.iand X0.here hx rfl (hb hby at_37) rfl ?_
    show Steps p.tables e below (s₁.setTop (mkF m 38 #[.val (.int p1), .val (.int p2), .val (.int p3), .val (.int p4), .val (.int v2), .val (.int v4), .val (.int v6), .unset, .unset, .unset, .unset, .unset, .unset, .unset] [(.int (((p2.toUInt32 >>> ((16 : Int32) &&& 31).toUInt32).toInt32) &&& (255 : Int32)))])) _
    refine XS.istore X0.here hx rfl (hb hby at_38) rfl (l' := #[.val (.int p1), .val (.int p2), .val (.int p3), .val (.int p4), .val (.int v2), .val (.int v4), .val (.int v6), .val (.int (((p2.toUInt32 >>> ((16 : Int32) &&& 31).toUInt32).toInt32) &&& (255 : Int32))), .unset, .unset, .unset, .unset, .unset, .unset]) rfl ?_
    exact kq
  obtain ⟨v10, hv_v10, pre9⟩ : ∃ v10 : Int32, v10 = (((p2.toUInt32 >>> ((24 : Int32) &&& 31).toUInt32).toInt32) &&& (255 : Int32)) ∧ (∀ tq, Steps p.tables e below (s₁.setTop (mkF m 50 #[.val (.int p1), .val (.int p2), .val (.int p3), .val (.int p4), .val (.int v2), .val (.int v4), .val (.int v6), .val (.int v8), .val (.int v10), .unset, .unset, .unset, .unset, .unset] [])) tq → Steps p.tables e below (s₁.setTop (entryFrame m #[(.int p1), (.int p2), (.int p3), (.int p4)] maxLocals)) tq) := by
    refine ⟨_, rfl, fun tq kq => pre7 tq ?_⟩
    show Steps p.tables e below (s₁.setTop (mkF m 40 #[.val (.int p1), .val (.int p2), .val (.int p3), .val (.int p4), .val (.int v2), .val (.int v4), .val (.int v6), .val (.int v8), .unset, .unset, .unset, .unset, .unset, .unset] [])) _
    refine XS.iloadN X0.here hx rfl (hb hby at_40) rfl ?_
    show Steps p.tables e below (s₁.setTop (mkF m 41 #[.val (.int p1), .val (.int p2), .val (.int p3), .val (.int p4), .val (.int v2), .val (.int v4), .val (.int v6), .val (.int v8), .unset, .unset, .unset, .unset, .unset, .unset] [(.int p2)])) _
    refine XS.bipush X0.here hx rfl (hb hby at_41) ?_
    show Steps p.tables e below (s₁.setTop (mkF m 43 #[.val (.int p1), .val (.int p2), .val (.int p3), .val (.int p4), .val (.int v2), .val (.int v4), .val (.int v6), .val (.int v8), .unset, .unset, .unset, .unset, .unset, .unset] [(.int (24 : Int32)), (.int p2)])) _
    refine XS.iushr X0.here hx rfl (hb hby at_43) rfl ?_
    show Steps p.tables e below (s₁.setTop (mkF m 44 #[.val (.int p1), .val (.int p2), .val (.int p3), .val (.int p4), .val (.int v2), .val (.int v4), .val (.int v6), .val (.int v8), .unset, .unset, .unset, .unset, .unset, .unset] [(.int ((p2.toUInt32 >>> ((24 : Int32) &&& 31).toUInt32).toInt32))])) _
    refine XS.sipush X0.here hx rfl (hb hby at_44) ?_
    show Steps p.tables e below (s₁.setTop (mkF m 47 #[.val (.int p1), .val (.int p2), .val (.int p3), .val (.int p4), .val (.int v2), .val (.int v4), .val (.int v6), .val (.int v8), .unset, .unset, .unset, .unset, .unset, .unset] [(.int (255 : Int32)), (.int ((p2.toUInt32 >>> ((24 : Int32) &&& 31).toUInt32).toInt32))])) _
    refine XS.iand X0.here hx rfl (hb hby at_47) rfl ?_
    show Steps p.tables e below (s₁.setTop (mkF m 48 #[.val (.int p1), .val (.int p2), .val (.int p3), .val (.int p4), .val (.int v2), .val (.int v4), .val (.int v6), .val (.int v8), .unset, .unset, .unset, .unset, .unset, .unset] [(.int (((p2.toUInt32 >>> ((24 : Int32) &&& 31).toUInt32).toInt32) &&& (255 : Int32)))])) _
    refine XS.istore X0.here hx rfl (hb hby at_48) rfl (l' := #[.val (.int p1), .val (.int p2), .val (.int p3), .val (.int p4), .val (.int v2), .val (.int v4), .val (.int v6), .val (.int v8), .val (.int (((p2.toUInt32 >>> ((24 : Int32) &&& 31).toUInt32).toInt32) &&& (255 : Int32))), .unset, .unset, .unset, .unset, .unset]) rfl ?_
    exact kq
  obtain ⟨v12, hv_v12, pre11⟩ : ∃ v12 : Int32, v12 = (p4 &&& (3 : Int32)) ∧ (∀ tq, Steps p.tables e below (s₁.setTop (mkF m 55 #[.val (.int p1), .val (.int p2), .val (.int p3), .val (.int p4), .val (.int v2), .val (.int v4), .val (.int v6), .val (.int v8), .val (.int v10), .val (.int v12), .unset, .unset, .unset, .unset] [])) tq → Steps p.tables e below (s₁.setTop (entryFrame m #[(.int p1), (.int p2), (.int p3), (.int p4)] maxLocals)) tq) := by
    refine ⟨_, rfl, fun tq kq => pre9 tq ?_⟩
    show Steps p.tables e below (s₁.setTop (mkF m 50 #[.val (.int p1), .val (.int p2), .val (.int p3), .val (.int p4), .val (.int v2), .val (.int v4), .val (.int v6), .val (.int v8), .val (.int v10), .unset, .unset, .unset, .unset, .unset] [])) _
    refine XS.iloadN X0.here hx rfl (hb hby at_50) rfl ?_
    show Steps p.tables e below (s₁.setTop (mkF m 51 #[.val (.int p1), .val (.int p2), .val (.int p3), .val (.int p4), .val (.int v2), .val (.int v4), .val (.int v6), .val (.int v8), .val (.int v10), .unset, .unset, .unset, .unset, .unset] [(.int p4)])) _
    refine XS.iconst X0.here hx rfl (hb hby at_51) ?_
    show Steps p.tables e below (s₁.setTop (mkF m 52 #[.val (.int p1), .val (.int p2), .val (.int p3), .val (.int p4), .val (.int v2), .val (.int v4), .val (.int v6), .val (.int v8), .val (.int v10), .unset, .unset, .unset, .unset, .unset] [(.int (3 : Int32)), (.int p4)])) _
    refine XS.iand X0.here hx rfl (hb hby at_52) rfl ?_
    show Steps p.tables e below (s₁.setTop (mkF m 53 #[.val (.int p1), .val (.int p2), .val (.int p3), .val (.int p4), .val (.int v2), .val (.int v4), .val (.int v6), .val (.int v8), .val (.int v10), .unset, .unset, .unset, .unset, .unset] [(.int (p4 &&& (3 : Int32)))])) _
    refine XS.istore X0.here hx rfl (hb hby at_53) rfl (l' := #[.val (.int p1), .val (.int p2), .val (.int p3), .val (.int p4), .val (.int v2), .val (.int v4), .val (.int v6), .val (.int v8), .val (.int v10), .val (.int (p4 &&& (3 : Int32))), .unset, .unset, .unset, .unset]) rfl ?_
    exact kq
  obtain ⟨v14, hv_v14, pre13⟩ : ∃ v14 : Int32, v14 = (p3.toInt8.toInt32) ∧ (∀ tq, Steps p.tables e below (s₁.setTop (mkF m 59 #[.val (.int p1), .val (.int p2), .val (.int p3), .val (.int p4), .val (.int v2), .val (.int v4), .val (.int v6), .val (.int v8), .val (.int v10), .val (.int v12), .val (.int v14), .unset, .unset, .unset] [])) tq → Steps p.tables e below (s₁.setTop (entryFrame m #[(.int p1), (.int p2), (.int p3), (.int p4)] maxLocals)) tq) := by
    refine ⟨_, rfl, fun tq kq => pre11 tq ?_⟩
    show Steps p.tables e below (s₁.setTop (mkF m 55 #[.val (.int p1), .val (.int p2), .val (.int p3), .val (.int p4), .val (.int v2), .val (.int v4), .val (.int v6), .val (.int v8), .val (.int v10), .val (.int v12), .unset, .unset, .unset, .unset] [])) _
    refine XS.iloadN X0.here hx rfl (hb hby at_55) rfl ?_
    show Steps p.tables e below (s₁.setTop (mkF m 56 #[.val (.int p1), .val (.int p2), .val (.int p3), .val (.int p4), .val (.int v2), .val (.int v4), .val (.int v6), .val (.int v8), .val (.int v10), .val (.int v12), .unset, .unset, .unset, .unset] [(.int p3)])) _
    refine XS.i2b X0.here hx rfl (hb hby at_56) rfl ?_
    show Steps p.tables e below (s₁.setTop (mkF m 57 #[.val (.int p1), .val (.int p2), .val (.int p3), .val (.int p4), .val (.int v2), .val (.int v4), .val (.int v6), .val (.int v8), .val (.int v10), .val (.int v12), .unset, .unset, .unset, .unset] [(.int (p3.toInt8.toInt32))])) _
    refine XS.istore X0.here hx rfl (hb hby at_57) rfl (l' := #[.val (.int p1), .val (.int p2), .val (.int p3), .val (.int p4), .val (.int v2), .val (.int v4), .val (.int v6), .val (.int v8), .val (.int v10), .val (.int v12), .val (.int (p3.toInt8.toInt32)), .unset, .unset, .unset]) rfl ?_
    exact kq
  have hb5 := own_msk p2
  rw [← hv_v4] at hb5
  have hb6 := own_msk ((p2.toUInt32 >>> ((8 : Int32) &&& 31).toUInt32).toInt32)
  rw [← hv_v6] at hb6
  have hb7 := own_msk ((p2.toUInt32 >>> ((16 : Int32) &&& 31).toUInt32).toInt32)
  rw [← hv_v8] at hb7
  have pre15 : ∀ tq, Steps p.tables e below (s₁.setTop (mkF m 61 #[.val (.int p1), .val (.int p2), .val (.int p3), .val (.int p4), .val (.int v2), .val (.int v4), .val (.int v6), .val (.int v8), .val (.int v10), .val (.int v12), .val (.int v14), .unset, .unset, .unset] [(.int (8 : Int32))])) tq → Steps p.tables e below (s₁.setTop (entryFrame m #[(.int p1), (.int p2), (.int p3), (.int p4)] maxLocals)) tq := by
    refine fun tq kq => pre13 tq ?_
    show Steps p.tables e below (s₁.setTop (mkF m 59 #[.val (.int p1), .val (.int p2), .val (.int p3), .val (.int p4), .val (.int v2), .val (.int v4), .val (.int v6), .val (.int v8), .val (.int v10), .val (.int v12), .val (.int v14), .unset, .unset, .unset] [])) _
    refine XS.bipush X0.here hx rfl (hb hby at_59) ?_
    exact kq
  obtain ⟨T16, h16, k16, X16, e16, E16, A16, st16⟩ := newP X0 hx hZ (hw _ (List.mem_of_getElem? (i := 1) rfl)) e0 (g := (mkF m 61 #[.val (.int p1), .val (.int p2), .val (.int p3), .val (.int p4), .val (.int v2), .val (.int v4), .val (.int v6), .val (.int v8), .val (.int v10), .val (.int v12), .val (.int v14), .unset, .unset, .unset] [(.int (8 : Int32))])) rfl (hb hby at_61) rfl (by decide) (cap := 8) (by decide) (by decide) (by decide) (by decide)
  obtain ⟨b16, g16⟩ : ∃ z, z = h0.size := ⟨_, rfl⟩
  rw [← g16] at A16 st16
  have g_b16 : n0 ≤ b16 := Nat.le_trans Z0 (Nat.le_of_eq g16.symm)
  have sz_b16 : h0.size ≤ b16 := Nat.le_trans (Nat.le_refl h0.size) (Nat.le_of_eq g16.symm)
  have pre17 : ∀ tq, Steps p.tables e below (T16.setTop (mkF m 63 #[.val (.int p1), .val (.int p2), .val (.int p3), .val (.int p4), .val (.int v2), .val (.int v4), .val (.int v6), .val (.int v8), .val (.int v10), .val (.int v12), .val (.int v14), .unset, .unset, .unset] [(.ref b16)])) tq → Steps p.tables e below (s₁.setTop (entryFrame m #[(.int p1), (.int p2), (.int p3), (.int p4)] maxLocals)) tq := fun tq kq => pre15 tq (st16 _ kq)
  have K16 : Keep h0 h16 [] := Keep.ext (Keep.refl h0 []) E16
  have f18 : Arv Z h16 b16 k16 .byte (8 : Int32) [(.int (0 : Int32)), (.int (0 : Int32)), (.int (0 : Int32)), (.int (0 : Int32)), (.int (0 : Int32)), (.int (0 : Int32)), (.int (0 : Int32)), (.int (0 : Int32))] (.int (0 : Int32)) := (Arv.new A16 (by decide)).pad (pad_rep [] (.int (0 : Int32)) 8)
  have pre19 : ∀ tq, Steps p.tables e below (T16.setTop (mkF m 67 #[.val (.int p1), .val (.int p2), .val (.int p3), .val (.int p4), .val (.int v2), .val (.int v4), .val (.int v6), .val (.int v8), .val (.int v10), .val (.int v12), .val (.int v14), .unset, .unset, .unset] [(.int v14), (.int (0 : Int32)), (.ref b16), (.ref b16)])) tq → Steps p.tables e below (s₁.setTop (entryFrame m #[(.int p1), (.int p2), (.int p3), (.int p4)] maxLocals)) tq := by
    refine fun tq kq => pre17 tq ?_
    show Steps p.tables e below (T16.setTop (mkF m 63 #[.val (.int p1), .val (.int p2), .val (.int p3), .val (.int p4), .val (.int v2), .val (.int v4), .val (.int v6), .val (.int v8), .val (.int v10), .val (.int v12), .val (.int v14), .unset, .unset, .unset] [(.ref b16)])) _
    refine XS.dup X16.here hx rfl (hb hby at_63) rfl rfl ?_
    show Steps p.tables e below (T16.setTop (mkF m 64 #[.val (.int p1), .val (.int p2), .val (.int p3), .val (.int p4), .val (.int v2), .val (.int v4), .val (.int v6), .val (.int v8), .val (.int v10), .val (.int v12), .val (.int v14), .unset, .unset, .unset] [(.ref b16), (.ref b16)])) _
    refine XS.iconst X16.here hx rfl (hb hby at_64) ?_
    show Steps p.tables e below (T16.setTop (mkF m 65 #[.val (.int p1), .val (.int p2), .val (.int p3), .val (.int p4), .val (.int v2), .val (.int v4), .val (.int v6), .val (.int v8), .val (.int v10), .val (.int v12), .val (.int v14), .unset, .unset, .unset] [(.int (0 : Int32)), (.ref b16), (.ref b16)])) _
    refine XS.iload X16.here hx rfl (hb hby at_65) rfl ?_
    exact kq
  have Vc20 := f18
  obtain ⟨cl20, Ar20, Aq20, As20, An20, Ah20, Ag20⟩ := Vc20
  have hin20 : ¬ ((0 : Int32) < 0 ∨ cl20.slots.size ≤ ((0 : Int32)).toNatClampNeg) := inb_of As20 ⟨by decide, by decide⟩
  obtain ⟨T20, h20, X20, e20, W20, st20⟩ := stB X16 hx hZ e16 Ar20 (j := (0 : Int32)) hin20 (g := (mkF m 67 #[.val (.int p1), .val (.int p2), .val (.int p3), .val (.int p4), .val (.int v2), .val (.int v4), .val (.int v6), .val (.int v8), .val (.int v10), .val (.int v12), .val (.int v14), .unset, .unset, .unset] [(.int v14), (.int (0 : Int32)), (.ref b16), (.ref b16)])) rfl rfl (hb hby at_67)
  have pre21 : ∀ tq, Steps p.tables e below (T20.setTop (mkF m 68 #[.val (.int p1), .val (.int p2), .val (.int p3), .val (.int p4), .val (.int v2), .val (.int v4), .val (.int v6), .val (.int v8), .val (.int v10), .val (.int v12), .val (.int v14), .unset, .unset, .unset] [(.ref b16)])) tq → Steps p.tables e below (s₁.setTop (entryFrame m #[(.int p1), (.int p2), (.int p3), (.int p4)] maxLocals)) tq := fun tq kq => pre19 tq (st20 _ kq)
  have N20 := Fr.snoc X20 N0 g_b16
  have K20 : Keep h0 h20 [] := Keep.wr K16 W20 (Or.inr sz_b16)
  have f22 : Arv Z h20 b16 k16 .byte (8 : Int32) [(.int (nar .byte v14)), (.int (0 : Int32)), (.int (0 : Int32)), (.int (0 : Int32)), (.int (0 : Int32)), (.int (0 : Int32)), (.int (0 : Int32)), (.int (0 : Int32))] (.int (0 : Int32)) := Arv.set Ar20 Aq20 As20 An20 Ah20 Ag20 (fits_nar_byte _) W20 0 rfl (Nat.le_of_ble_eq_true rfl)
  have pre23 : ∀ tq, Steps p.tables e below (T20.setTop (mkF m 72 #[.val (.int p1), .val (.int p2), .val (.int p3), .val (.int p4), .val (.int v2), .val (.int v4), .val (.int v6), .val (.int v8), .val (.int v10), .val (.int v12), .val (.int v14), .unset, .unset, .unset] [(.int v14), (.int (1 : Int32)), (.ref b16), (.ref b16)])) tq → Steps p.tables e below (s₁.setTop (entryFrame m #[(.int p1), (.int p2), (.int p3), (.int p4)] maxLocals)) tq := by
    refine fun tq kq => pre21 tq ?_
    show Steps p.tables e below (T20.setTop (mkF m 68 #[.val (.int p1), .val (.int p2), .val (.int p3), .val (.int p4), .val (.int v2), .val (.int v4), .val (.int v6), .val (.int v8), .val (.int v10), .val (.int v12), .val (.int v14), .unset, .unset, .unset] [(.ref b16)])) _
    refine XS.dup X20.here hx rfl (hb hby at_68) rfl rfl ?_
    show Steps p.tables e below (T20.setTop (mkF m 69 #[.val (.int p1), .val (.int p2), .val (.int p3), .val (.int p4), .val (.int v2), .val (.int v4), .val (.int v6), .val (.int v8), .val (.int v10), .val (.int v12), .val (.int v14), .unset, .unset, .unset] [(.ref b16), (.ref b16)])) _
    refine XS.iconst X20.here hx rfl (hb hby at_69) ?_
    show Steps p.tables e below (T20.setTop (mkF m 70 #[.val (.int p1), .val (.int p2), .val (.int p3), .val (.int p4), .val (.int v2), .val (.int v4), .val (.int v6), .val (.int v8), .val (.int v10), .val (.int v12), .val (.int v14), .unset, .unset, .unset] [(.int (1 : Int32)), (.ref b16), (.ref b16)])) _
    refine XS.iload X20.here hx rfl (hb hby at_70) rfl ?_
    exact kq
  have Vc24 := f22
  obtain ⟨cl24, Ar24, Aq24, As24, An24, Ah24, Ag24⟩ := Vc24
  have hin24 : ¬ ((1 : Int32) < 0 ∨ cl24.slots.size ≤ ((1 : Int32)).toNatClampNeg) := inb_of As24 ⟨by decide, by decide⟩
  obtain ⟨T24, h24, X24, e24, W24, st24⟩ := stB X20 hx hZ e20 Ar24 (j := (1 : Int32)) hin24 (g := (mkF m 72 #[.val (.int p1), .val (.int p2), .val (.int p3), .val (.int p4), .val (.int v2), .val (.int v4), .val (.int v6), .val (.int v8), .val (.int v10), .val (.int v12), .val (.int v14), .unset, .unset, .unset] [(.int v14), (.int (1 : Int32)), (.ref b16), (.ref b16)])) rfl rfl (hb hby at_72)
  have pre25 : ∀ tq, Steps p.tables e below (T24.setTop (mkF m 73 #[.val (.int p1), .val (.int p2), .val (.int p3), .val (.int p4), .val (.int v2), .val (.int v4), .val (.int v6), .val (.int v8), .val (.int v10), .val (.int v12), .val (.int v14), .unset, .unset, .unset] [(.ref b16)])) tq → Steps p.tables e below (s₁.setTop (entryFrame m #[(.int p1), (.int p2), (.int p3), (.int p4)] maxLocals)) tq := fun tq kq => pre23 tq (st24 _ kq)
  have N24 := Fr.snoc X24 N20 g_b16
  have K24 : Keep h0 h24 [] := Keep.wr K20 W24 (Or.inr sz_b16)
  have f26 : Arv Z h24 b16 k16 .byte (8 : Int32) [(.int (nar .byte v14)), (.int (nar .byte v14)), (.int (0 : Int32)), (.int (0 : Int32)), (.int (0 : Int32)), (.int (0 : Int32)), (.int (0 : Int32)), (.int (0 : Int32))] (.int (0 : Int32)) := Arv.set Ar24 Aq24 As24 An24 Ah24 Ag24 (fits_nar_byte _) W24 1 rfl (Nat.le_of_ble_eq_true rfl)
  have pre27 : ∀ tq, Steps p.tables e below (T24.setTop (mkF m 77 #[.val (.int p1), .val (.int p2), .val (.int p3), .val (.int p4), .val (.int v2), .val (.int v4), .val (.int v6), .val (.int v8), .val (.int v10), .val (.int v12), .val (.int v14), .unset, .unset, .unset] [(.int v14), (.int (2 : Int32)), (.ref b16), (.ref b16)])) tq → Steps p.tables e below (s₁.setTop (entryFrame m #[(.int p1), (.int p2), (.int p3), (.int p4)] maxLocals)) tq := by
    refine fun tq kq => pre25 tq ?_
    show Steps p.tables e below (T24.setTop (mkF m 73 #[.val (.int p1), .val (.int p2), .val (.int p3), .val (.int p4), .val (.int v2), .val (.int v4), .val (.int v6), .val (.int v8), .val (.int v10), .val (.int v12), .val (.int v14), .unset, .unset, .unset] [(.ref b16)])) _
    refine XS.dup X24.here hx rfl (hb hby at_73) rfl rfl ?_
    show Steps p.tables e below (T24.setTop (mkF m 74 #[.val (.int p1), .val (.int p2), .val (.int p3), .val (.int p4), .val (.int v2), .val (.int v4), .val (.int v6), .val (.int v8), .val (.int v10), .val (.int v12), .val (.int v14), .unset, .unset, .unset] [(.ref b16), (.ref b16)])) _
    refine XS.iconst X24.here hx rfl (hb hby at_74) ?_
    show Steps p.tables e below (T24.setTop (mkF m 75 #[.val (.int p1), .val (.int p2), .val (.int p3), .val (.int p4), .val (.int v2), .val (.int v4), .val (.int v6), .val (.int v8), .val (.int v10), .val (.int v12), .val (.int v14), .unset, .unset, .unset] [(.int (2 : Int32)), (.ref b16), (.ref b16)])) _
    refine XS.iload X24.here hx rfl (hb hby at_75) rfl ?_
    exact kq
  have Vc28 := f26
  obtain ⟨cl28, Ar28, Aq28, As28, An28, Ah28, Ag28⟩ := Vc28
  have hin28 : ¬ ((2 : Int32) < 0 ∨ cl28.slots.size ≤ ((2 : Int32)).toNatClampNeg) := inb_of As28 ⟨by decide, by decide⟩
  obtain ⟨T28, h28, X28, e28, W28, st28⟩ := stB X24 hx hZ e24 Ar28 (j := (2 : Int32)) hin28 (g := (mkF m 77 #[.val (.int p1), .val (.int p2), .val (.int p3), .val (.int p4), .val (.int v2), .val (.int v4), .val (.int v6), .val (.int v8), .val (.int v10), .val (.int v12), .val (.int v14), .unset, .unset, .unset] [(.int v14), (.int (2 : Int32)), (.ref b16), (.ref b16)])) rfl rfl (hb hby at_77)
  have pre29 : ∀ tq, Steps p.tables e below (T28.setTop (mkF m 78 #[.val (.int p1), .val (.int p2), .val (.int p3), .val (.int p4), .val (.int v2), .val (.int v4), .val (.int v6), .val (.int v8), .val (.int v10), .val (.int v12), .val (.int v14), .unset, .unset, .unset] [(.ref b16)])) tq → Steps p.tables e below (s₁.setTop (entryFrame m #[(.int p1), (.int p2), (.int p3), (.int p4)] maxLocals)) tq := fun tq kq => pre27 tq (st28 _ kq)
  have N28 := Fr.snoc X28 N24 g_b16
  have K28 : Keep h0 h28 [] := Keep.wr K24 W28 (Or.inr sz_b16)
  have f30 : Arv Z h28 b16 k16 .byte (8 : Int32) [(.int (nar .byte v14)), (.int (nar .byte v14)), (.int (nar .byte v14)), (.int (0 : Int32)), (.int (0 : Int32)), (.int (0 : Int32)), (.int (0 : Int32)), (.int (0 : Int32))] (.int (0 : Int32)) := Arv.set Ar28 Aq28 As28 An28 Ah28 Ag28 (fits_nar_byte _) W28 2 rfl (Nat.le_of_ble_eq_true rfl)
  have pre31 : ∀ tq, Steps p.tables e below (T28.setTop (mkF m 82 #[.val (.int p1), .val (.int p2), .val (.int p3), .val (.int p4), .val (.int v2), .val (.int v4), .val (.int v6), .val (.int v8), .val (.int v10), .val (.int v12), .val (.int v14), .unset, .unset, .unset] [(.int v14), (.int (3 : Int32)), (.ref b16), (.ref b16)])) tq → Steps p.tables e below (s₁.setTop (entryFrame m #[(.int p1), (.int p2), (.int p3), (.int p4)] maxLocals)) tq := by
    refine fun tq kq => pre29 tq ?_
    show Steps p.tables e below (T28.setTop (mkF m 78 #[.val (.int p1), .val (.int p2), .val (.int p3), .val (.int p4), .val (.int v2), .val (.int v4), .val (.int v6), .val (.int v8), .val (.int v10), .val (.int v12), .val (.int v14), .unset, .unset, .unset] [(.ref b16)])) _
    refine XS.dup X28.here hx rfl (hb hby at_78) rfl rfl ?_
    show Steps p.tables e below (T28.setTop (mkF m 79 #[.val (.int p1), .val (.int p2), .val (.int p3), .val (.int p4), .val (.int v2), .val (.int v4), .val (.int v6), .val (.int v8), .val (.int v10), .val (.int v12), .val (.int v14), .unset, .unset, .unset] [(.ref b16), (.ref b16)])) _
    refine XS.iconst X28.here hx rfl (hb hby at_79) ?_
    show Steps p.tables e below (T28.setTop (mkF m 80 #[.val (.int p1), .val (.int p2), .val (.int p3), .val (.int p4), .val (.int v2), .val (.int v4), .val (.int v6), .val (.int v8), .val (.int v10), .val (.int v12), .val (.int v14), .unset, .unset, .unset] [(.int (3 : Int32)), (.ref b16), (.ref b16)])) _
    refine XS.iload X28.here hx rfl (hb hby at_80) rfl ?_
    exact kq
  have Vc32 := f30
  obtain ⟨cl32, Ar32, Aq32, As32, An32, Ah32, Ag32⟩ := Vc32
  have hin32 : ¬ ((3 : Int32) < 0 ∨ cl32.slots.size ≤ ((3 : Int32)).toNatClampNeg) := inb_of As32 ⟨by decide, by decide⟩
  obtain ⟨T32, h32, X32, e32, W32, st32⟩ := stB X28 hx hZ e28 Ar32 (j := (3 : Int32)) hin32 (g := (mkF m 82 #[.val (.int p1), .val (.int p2), .val (.int p3), .val (.int p4), .val (.int v2), .val (.int v4), .val (.int v6), .val (.int v8), .val (.int v10), .val (.int v12), .val (.int v14), .unset, .unset, .unset] [(.int v14), (.int (3 : Int32)), (.ref b16), (.ref b16)])) rfl rfl (hb hby at_82)
  have pre33 : ∀ tq, Steps p.tables e below (T32.setTop (mkF m 83 #[.val (.int p1), .val (.int p2), .val (.int p3), .val (.int p4), .val (.int v2), .val (.int v4), .val (.int v6), .val (.int v8), .val (.int v10), .val (.int v12), .val (.int v14), .unset, .unset, .unset] [(.ref b16)])) tq → Steps p.tables e below (s₁.setTop (entryFrame m #[(.int p1), (.int p2), (.int p3), (.int p4)] maxLocals)) tq := fun tq kq => pre31 tq (st32 _ kq)
  have N32 := Fr.snoc X32 N28 g_b16
  have K32 : Keep h0 h32 [] := Keep.wr K28 W32 (Or.inr sz_b16)
  have f34 : Arv Z h32 b16 k16 .byte (8 : Int32) [(.int (nar .byte v14)), (.int (nar .byte v14)), (.int (nar .byte v14)), (.int (nar .byte v14)), (.int (0 : Int32)), (.int (0 : Int32)), (.int (0 : Int32)), (.int (0 : Int32))] (.int (0 : Int32)) := Arv.set Ar32 Aq32 As32 An32 Ah32 Ag32 (fits_nar_byte _) W32 3 rfl (Nat.le_of_ble_eq_true rfl)
  have pre35 : ∀ tq, Steps p.tables e below (T32.setTop (mkF m 87 #[.val (.int p1), .val (.int p2), .val (.int p3), .val (.int p4), .val (.int v2), .val (.int v4), .val (.int v6), .val (.int v8), .val (.int v10), .val (.int v12), .val (.int v14), .unset, .unset, .unset] [(.int v14), (.int (4 : Int32)), (.ref b16), (.ref b16)])) tq → Steps p.tables e below (s₁.setTop (entryFrame m #[(.int p1), (.int p2), (.int p3), (.int p4)] maxLocals)) tq := by
    refine fun tq kq => pre33 tq ?_
    show Steps p.tables e below (T32.setTop (mkF m 83 #[.val (.int p1), .val (.int p2), .val (.int p3), .val (.int p4), .val (.int v2), .val (.int v4), .val (.int v6), .val (.int v8), .val (.int v10), .val (.int v12), .val (.int v14), .unset, .unset, .unset] [(.ref b16)])) _
    refine XS.dup X32.here hx rfl (hb hby at_83) rfl rfl ?_
    show Steps p.tables e below (T32.setTop (mkF m 84 #[.val (.int p1), .val (.int p2), .val (.int p3), .val (.int p4), .val (.int v2), .val (.int v4), .val (.int v6), .val (.int v8), .val (.int v10), .val (.int v12), .val (.int v14), .unset, .unset, .unset] [(.ref b16), (.ref b16)])) _
    refine XS.iconst X32.here hx rfl (hb hby at_84) ?_
    show Steps p.tables e below (T32.setTop (mkF m 85 #[.val (.int p1), .val (.int p2), .val (.int p3), .val (.int p4), .val (.int v2), .val (.int v4), .val (.int v6), .val (.int v8), .val (.int v10), .val (.int v12), .val (.int v14), .unset, .unset, .unset] [(.int (4 : Int32)), (.ref b16), (.ref b16)])) _
    refine XS.iload X32.here hx rfl (hb hby at_85) rfl ?_
    exact kq
  have Vc36 := f34
  obtain ⟨cl36, Ar36, Aq36, As36, An36, Ah36, Ag36⟩ := Vc36
  have hin36 : ¬ ((4 : Int32) < 0 ∨ cl36.slots.size ≤ ((4 : Int32)).toNatClampNeg) := inb_of As36 ⟨by decide, by decide⟩
  obtain ⟨T36, h36, X36, e36, W36, st36⟩ := stB X32 hx hZ e32 Ar36 (j := (4 : Int32)) hin36 (g := (mkF m 87 #[.val (.int p1), .val (.int p2), .val (.int p3), .val (.int p4), .val (.int v2), .val (.int v4), .val (.int v6), .val (.int v8), .val (.int v10), .val (.int v12), .val (.int v14), .unset, .unset, .unset] [(.int v14), (.int (4 : Int32)), (.ref b16), (.ref b16)])) rfl rfl (hb hby at_87)
  have pre37 : ∀ tq, Steps p.tables e below (T36.setTop (mkF m 88 #[.val (.int p1), .val (.int p2), .val (.int p3), .val (.int p4), .val (.int v2), .val (.int v4), .val (.int v6), .val (.int v8), .val (.int v10), .val (.int v12), .val (.int v14), .unset, .unset, .unset] [(.ref b16)])) tq → Steps p.tables e below (s₁.setTop (entryFrame m #[(.int p1), (.int p2), (.int p3), (.int p4)] maxLocals)) tq := fun tq kq => pre35 tq (st36 _ kq)
  have N36 := Fr.snoc X36 N32 g_b16
  have K36 : Keep h0 h36 [] := Keep.wr K32 W36 (Or.inr sz_b16)
  have f38 : Arv Z h36 b16 k16 .byte (8 : Int32) [(.int (nar .byte v14)), (.int (nar .byte v14)), (.int (nar .byte v14)), (.int (nar .byte v14)), (.int (nar .byte v14)), (.int (0 : Int32)), (.int (0 : Int32)), (.int (0 : Int32))] (.int (0 : Int32)) := Arv.set Ar36 Aq36 As36 An36 Ah36 Ag36 (fits_nar_byte _) W36 4 rfl (Nat.le_of_ble_eq_true rfl)
  have pre39 : ∀ tq, Steps p.tables e below (T36.setTop (mkF m 92 #[.val (.int p1), .val (.int p2), .val (.int p3), .val (.int p4), .val (.int v2), .val (.int v4), .val (.int v6), .val (.int v8), .val (.int v10), .val (.int v12), .val (.int v14), .unset, .unset, .unset] [(.int v14), (.int (5 : Int32)), (.ref b16), (.ref b16)])) tq → Steps p.tables e below (s₁.setTop (entryFrame m #[(.int p1), (.int p2), (.int p3), (.int p4)] maxLocals)) tq := by
    refine fun tq kq => pre37 tq ?_
    show Steps p.tables e below (T36.setTop (mkF m 88 #[.val (.int p1), .val (.int p2), .val (.int p3), .val (.int p4), .val (.int v2), .val (.int v4), .val (.int v6), .val (.int v8), .val (.int v10), .val (.int v12), .val (.int v14), .unset, .unset, .unset] [(.ref b16)])) _
    refine XS.dup X36.here hx rfl (hb hby at_88) rfl rfl ?_
    show Steps p.tables e below (T36.setTop (mkF m 89 #[.val (.int p1), .val (.int p2), .val (.int p3), .val (.int p4), .val (.int v2), .val (.int v4), .val (.int v6), .val (.int v8), .val (.int v10), .val (.int v12), .val (.int v14), .unset, .unset, .unset] [(.ref b16), (.ref b16)])) _
    refine XS.iconst X36.here hx rfl (hb hby at_89) ?_
    show Steps p.tables e below (T36.setTop (mkF m 90 #[.val (.int p1), .val (.int p2), .val (.int p3), .val (.int p4), .val (.int v2), .val (.int v4), .val (.int v6), .val (.int v8), .val (.int v10), .val (.int v12), .val (.int v14), .unset, .unset, .unset] [(.int (5 : Int32)), (.ref b16), (.ref b16)])) _
    refine XS.iload X36.here hx rfl (hb hby at_90) rfl ?_
    exact kq
  have Vc40 := f38
  obtain ⟨cl40, Ar40, Aq40, As40, An40, Ah40, Ag40⟩ := Vc40
  have hin40 : ¬ ((5 : Int32) < 0 ∨ cl40.slots.size ≤ ((5 : Int32)).toNatClampNeg) := inb_of As40 ⟨by decide, by decide⟩
  obtain ⟨T40, h40, X40, e40, W40, st40⟩ := stB X36 hx hZ e36 Ar40 (j := (5 : Int32)) hin40 (g := (mkF m 92 #[.val (.int p1), .val (.int p2), .val (.int p3), .val (.int p4), .val (.int v2), .val (.int v4), .val (.int v6), .val (.int v8), .val (.int v10), .val (.int v12), .val (.int v14), .unset, .unset, .unset] [(.int v14), (.int (5 : Int32)), (.ref b16), (.ref b16)])) rfl rfl (hb hby at_92)
  have pre41 : ∀ tq, Steps p.tables e below (T40.setTop (mkF m 93 #[.val (.int p1), .val (.int p2), .val (.int p3), .val (.int p4), .val (.int v2), .val (.int v4), .val (.int v6), .val (.int v8), .val (.int v10), .val (.int v12), .val (.int v14), .unset, .unset, .unset] [(.ref b16)])) tq → Steps p.tables e below (s₁.setTop (entryFrame m #[(.int p1), (.int p2), (.int p3), (.int p4)] maxLocals)) tq := fun tq kq => pre39 tq (st40 _ kq)
  have N40 := Fr.snoc X40 N36 g_b16
  have K40 : Keep h0 h40 [] := Keep.wr K36 W40 (Or.inr sz_b16)
  have f42 : Arv Z h40 b16 k16 .byte (8 : Int32) [(.int (nar .byte v14)), (.int (nar .byte v14)), (.int (nar .byte v14)), (.int (nar .byte v14)), (.int (nar .byte v14)), (.int (nar .byte v14)), (.int (0 : Int32)), (.int (0 : Int32))] (.int (0 : Int32)) := Arv.set Ar40 Aq40 As40 An40 Ah40 Ag40 (fits_nar_byte _) W40 5 rfl (Nat.le_of_ble_eq_true rfl)
  have pre43 : ∀ tq, Steps p.tables e below (T40.setTop (mkF m 98 #[.val (.int p1), .val (.int p2), .val (.int p3), .val (.int p4), .val (.int v2), .val (.int v4), .val (.int v6), .val (.int v8), .val (.int v10), .val (.int v12), .val (.int v14), .unset, .unset, .unset] [(.int v14), (.int (6 : Int32)), (.ref b16), (.ref b16)])) tq → Steps p.tables e below (s₁.setTop (entryFrame m #[(.int p1), (.int p2), (.int p3), (.int p4)] maxLocals)) tq := by
    refine fun tq kq => pre41 tq ?_
    show Steps p.tables e below (T40.setTop (mkF m 93 #[.val (.int p1), .val (.int p2), .val (.int p3), .val (.int p4), .val (.int v2), .val (.int v4), .val (.int v6), .val (.int v8), .val (.int v10), .val (.int v12), .val (.int v14), .unset, .unset, .unset] [(.ref b16)])) _
    refine XS.dup X40.here hx rfl (hb hby at_93) rfl rfl ?_
    show Steps p.tables e below (T40.setTop (mkF m 94 #[.val (.int p1), .val (.int p2), .val (.int p3), .val (.int p4), .val (.int v2), .val (.int v4), .val (.int v6), .val (.int v8), .val (.int v10), .val (.int v12), .val (.int v14), .unset, .unset, .unset] [(.ref b16), (.ref b16)])) _
    refine XS.bipush X40.here hx rfl (hb hby at_94) ?_
    show Steps p.tables e below (T40.setTop (mkF m 96 #[.val (.int p1), .val (.int p2), .val (.int p3), .val (.int p4), .val (.int v2), .val (.int v4), .val (.int v6), .val (.int v8), .val (.int v10), .val (.int v12), .val (.int v14), .unset, .unset, .unset] [(.int (6 : Int32)), (.ref b16), (.ref b16)])) _
    refine XS.iload X40.here hx rfl (hb hby at_96) rfl ?_
    exact kq
  have Vc44 := f42
  obtain ⟨cl44, Ar44, Aq44, As44, An44, Ah44, Ag44⟩ := Vc44
  have hin44 : ¬ ((6 : Int32) < 0 ∨ cl44.slots.size ≤ ((6 : Int32)).toNatClampNeg) := inb_of As44 ⟨by decide, by decide⟩
  obtain ⟨T44, h44, X44, e44, W44, st44⟩ := stB X40 hx hZ e40 Ar44 (j := (6 : Int32)) hin44 (g := (mkF m 98 #[.val (.int p1), .val (.int p2), .val (.int p3), .val (.int p4), .val (.int v2), .val (.int v4), .val (.int v6), .val (.int v8), .val (.int v10), .val (.int v12), .val (.int v14), .unset, .unset, .unset] [(.int v14), (.int (6 : Int32)), (.ref b16), (.ref b16)])) rfl rfl (hb hby at_98)
  have pre45 : ∀ tq, Steps p.tables e below (T44.setTop (mkF m 99 #[.val (.int p1), .val (.int p2), .val (.int p3), .val (.int p4), .val (.int v2), .val (.int v4), .val (.int v6), .val (.int v8), .val (.int v10), .val (.int v12), .val (.int v14), .unset, .unset, .unset] [(.ref b16)])) tq → Steps p.tables e below (s₁.setTop (entryFrame m #[(.int p1), (.int p2), (.int p3), (.int p4)] maxLocals)) tq := fun tq kq => pre43 tq (st44 _ kq)
  have N44 := Fr.snoc X44 N40 g_b16
  have K44 : Keep h0 h44 [] := Keep.wr K40 W44 (Or.inr sz_b16)
  have f46 : Arv Z h44 b16 k16 .byte (8 : Int32) [(.int (nar .byte v14)), (.int (nar .byte v14)), (.int (nar .byte v14)), (.int (nar .byte v14)), (.int (nar .byte v14)), (.int (nar .byte v14)), (.int (nar .byte v14)), (.int (0 : Int32))] (.int (0 : Int32)) := Arv.set Ar44 Aq44 As44 An44 Ah44 Ag44 (fits_nar_byte _) W44 6 rfl (Nat.le_of_ble_eq_true rfl)
  have pre47 : ∀ tq, Steps p.tables e below (T44.setTop (mkF m 104 #[.val (.int p1), .val (.int p2), .val (.int p3), .val (.int p4), .val (.int v2), .val (.int v4), .val (.int v6), .val (.int v8), .val (.int v10), .val (.int v12), .val (.int v14), .unset, .unset, .unset] [(.int v14), (.int (7 : Int32)), (.ref b16), (.ref b16)])) tq → Steps p.tables e below (s₁.setTop (entryFrame m #[(.int p1), (.int p2), (.int p3), (.int p4)] maxLocals)) tq := by
    refine fun tq kq => pre45 tq ?_
    show Steps p.tables e below (T44.setTop (mkF m 99 #[.val (.int p1), .val (.int p2), .val (.int p3), .val (.int p4), .val (.int v2), .val (.int v4), .val (.int v6), .val (.int v8), .val (.int v10), .val (.int v12), .val (.int v14), .unset, .unset, .unset] [(.ref b16)])) _
    refine XS.dup X44.here hx rfl (hb hby at_99) rfl rfl ?_
    show Steps p.tables e below (T44.setTop (mkF m 100 #[.val (.int p1), .val (.int p2), .val (.int p3), .val (.int p4), .val (.int v2), .val (.int v4), .val (.int v6), .val (.int v8), .val (.int v10), .val (.int v12), .val (.int v14), .unset, .unset, .unset] [(.ref b16), (.ref b16)])) _
    refine XS.bipush X44.here hx rfl (hb hby at_100) ?_
    show Steps p.tables e below (T44.setTop (mkF m 102 #[.val (.int p1), .val (.int p2), .val (.int p3), .val (.int p4), .val (.int v2), .val (.int v4), .val (.int v6), .val (.int v8), .val (.int v10), .val (.int v12), .val (.int v14), .unset, .unset, .unset] [(.int (7 : Int32)), (.ref b16), (.ref b16)])) _
    refine XS.iload X44.here hx rfl (hb hby at_102) rfl ?_
    exact kq
  have Vc48 := f46
  obtain ⟨cl48, Ar48, Aq48, As48, An48, Ah48, Ag48⟩ := Vc48
  have hin48 : ¬ ((7 : Int32) < 0 ∨ cl48.slots.size ≤ ((7 : Int32)).toNatClampNeg) := inb_of As48 ⟨by decide, by decide⟩
  obtain ⟨T48, h48, X48, e48, W48, st48⟩ := stB X44 hx hZ e44 Ar48 (j := (7 : Int32)) hin48 (g := (mkF m 104 #[.val (.int p1), .val (.int p2), .val (.int p3), .val (.int p4), .val (.int v2), .val (.int v4), .val (.int v6), .val (.int v8), .val (.int v10), .val (.int v12), .val (.int v14), .unset, .unset, .unset] [(.int v14), (.int (7 : Int32)), (.ref b16), (.ref b16)])) rfl rfl (hb hby at_104)
  have pre49 : ∀ tq, Steps p.tables e below (T48.setTop (mkF m 105 #[.val (.int p1), .val (.int p2), .val (.int p3), .val (.int p4), .val (.int v2), .val (.int v4), .val (.int v6), .val (.int v8), .val (.int v10), .val (.int v12), .val (.int v14), .unset, .unset, .unset] [(.ref b16)])) tq → Steps p.tables e below (s₁.setTop (entryFrame m #[(.int p1), (.int p2), (.int p3), (.int p4)] maxLocals)) tq := fun tq kq => pre47 tq (st48 _ kq)
  have N48 := Fr.snoc X48 N44 g_b16
  have K48 : Keep h0 h48 [] := Keep.wr K44 W48 (Or.inr sz_b16)
  have f50 : Arv Z h48 b16 k16 .byte (8 : Int32) [(.int (nar .byte v14)), (.int (nar .byte v14)), (.int (nar .byte v14)), (.int (nar .byte v14)), (.int (nar .byte v14)), (.int (nar .byte v14)), (.int (nar .byte v14)), (.int (nar .byte v14))] (.int (0 : Int32)) := Arv.set Ar48 Aq48 As48 An48 Ah48 Ag48 (fits_nar_byte _) W48 7 rfl (Nat.le_of_ble_eq_true rfl)
  have pre51 : ∀ tq, Steps p.tables e below (T48.setTop (mkF m 107 #[.val (.int p1), .val (.int p2), .val (.int p3), .val (.int p4), .val (.int v2), .val (.int v4), .val (.int v6), .val (.int v8), .val (.int v10), .val (.int v12), .val (.int v14), .val (.ref b16), .unset, .unset] [])) tq → Steps p.tables e below (s₁.setTop (entryFrame m #[(.int p1), (.int p2), (.int p3), (.int p4)] maxLocals)) tq := by
    refine fun tq kq => pre49 tq ?_
    show Steps p.tables e below (T48.setTop (mkF m 105 #[.val (.int p1), .val (.int p2), .val (.int p3), .val (.int p4), .val (.int v2), .val (.int v4), .val (.int v6), .val (.int v8), .val (.int v10), .val (.int v12), .val (.int v14), .unset, .unset, .unset] [(.ref b16)])) _
    refine XS.astore X48.here hx rfl (hb hby at_105) rfl rfl (l' := #[.val (.int p1), .val (.int p2), .val (.int p3), .val (.int p4), .val (.int v2), .val (.int v4), .val (.int v6), .val (.int v8), .val (.int v10), .val (.int v12), .val (.int v14), .val (.ref b16), .unset, .unset]) rfl ?_
    exact kq
  have hcs107 : v12 = (0 : Int32) ∨ v12 = (1 : Int32) ∨ v12 = (2 : Int32) ∨ v12 = (3 : Int32) := by
    exact own_at hv_v12
  rcases hcs107 with hk | hk | hk | hk
  · skip
    subst hk
    have pre52 : ∀ tq, Steps p.tables e below (T48.setTop (mkF m 114 #[.val (.int p1), .val (.int p2), .val (.int p3), .val (.int p4), .val (.int v2), .val (.int v4), .val (.int v6), .val (.int v8), .val (.int v10), .val (.int (0 : Int32)), .val (.int v14), .val (.ref b16), .unset, .unset] [(.int (v2.toInt8.toInt32)), (.int (0 : Int32)), (.ref b16)])) tq → Steps p.tables e below (s₁.setTop (entryFrame m #[(.int p1), (.int p2), (.int p3), (.int p4)] maxLocals)) tq := by
      refine fun tq kq => pre51 tq ?_
      show Steps p.tables e below (T48.setTop (mkF m 107 #[.val (.int p1), .val (.int p2), .val (.int p3), .val (.int p4), .val (.int v2), .val (.int v4), .val (.int v6), .val (.int v8), .val (.int v10), .val (.int (0 : Int32)), .val (.int v14), .val (.ref b16), .unset, .unset] [])) _
      refine XS.aload X48.here hx rfl (hb hby at_107) rfl rfl ?_
      show Steps p.tables e below (T48.setTop (mkF m 109 #[.val (.int p1), .val (.int p2), .val (.int p3), .val (.int p4), .val (.int v2), .val (.int v4), .val (.int v6), .val (.int v8), .val (.int v10), .val (.int (0 : Int32)), .val (.int v14), .val (.ref b16), .unset, .unset] [(.ref b16)])) _
      refine XS.iload X48.here hx rfl (hb hby at_109) rfl ?_
      show Steps p.tables e below (T48.setTop (mkF m 111 #[.val (.int p1), .val (.int p2), .val (.int p3), .val (.int p4), .val (.int v2), .val (.int v4), .val (.int v6), .val (.int v8), .val (.int v10), .val (.int (0 : Int32)), .val (.int v14), .val (.ref b16), .unset, .unset] [(.int (0 : Int32)), (.ref b16)])) _
      refine XS.iload X48.here hx rfl (hb hby at_111) rfl ?_
      show Steps p.tables e below (T48.setTop (mkF m 113 #[.val (.int p1), .val (.int p2), .val (.int p3), .val (.int p4), .val (.int v2), .val (.int v4), .val (.int v6), .val (.int v8), .val (.int v10), .val (.int (0 : Int32)), .val (.int v14), .val (.ref b16), .unset, .unset] [(.int v2), (.int (0 : Int32)), (.ref b16)])) _
      refine XS.i2b X48.here hx rfl (hb hby at_113) rfl ?_
      exact kq
    have Vc53 := f50
    obtain ⟨cl53, Ar53, Aq53, As53, An53, Ah53, Ag53⟩ := Vc53
    have hin53 : ¬ ((0 : Int32) < 0 ∨ cl53.slots.size ≤ ((0 : Int32)).toNatClampNeg) := inb_of As53 ⟨by decide, by decide⟩
    obtain ⟨T53, h53, X53, e53, W53, st53⟩ := stB X48 hx hZ e48 Ar53 (j := (0 : Int32)) hin53 (g := (mkF m 114 #[.val (.int p1), .val (.int p2), .val (.int p3), .val (.int p4), .val (.int v2), .val (.int v4), .val (.int v6), .val (.int v8), .val (.int v10), .val (.int (0 : Int32)), .val (.int v14), .val (.ref b16), .unset, .unset] [(.int (v2.toInt8.toInt32)), (.int (0 : Int32)), (.ref b16)])) rfl rfl (hb hby at_114)
    have pre54 : ∀ tq, Steps p.tables e below (T53.setTop (mkF m 115 #[.val (.int p1), .val (.int p2), .val (.int p3), .val (.int p4), .val (.int v2), .val (.int v4), .val (.int v6), .val (.int v8), .val (.int v10), .val (.int (0 : Int32)), .val (.int v14), .val (.ref b16), .unset, .unset] [])) tq → Steps p.tables e below (s₁.setTop (entryFrame m #[(.int p1), (.int p2), (.int p3), (.int p4)] maxLocals)) tq := fun tq kq => pre52 tq (st53 _ kq)
    have N53 := Fr.snoc X53 N48 g_b16
    have K53 : Keep h0 h53 [] := Keep.wr K48 W53 (Or.inr sz_b16)
    have f55 : Arv Z h53 b16 k16 .byte (8 : Int32) [(.int (nar .byte (v2.toInt8.toInt32))), (.int (nar .byte v14)), (.int (nar .byte v14)), (.int (nar .byte v14)), (.int (nar .byte v14)), (.int (nar .byte v14)), (.int (nar .byte v14)), (.int (nar .byte v14))] (.int (0 : Int32)) := Arv.set Ar53 Aq53 As53 An53 Ah53 Ag53 (fits_nar_byte _) W53 0 rfl (Nat.le_of_ble_eq_true rfl)
    have pre56 : ∀ tq, Steps p.tables e below (T53.setTop (mkF m 124 #[.val (.int p1), .val (.int p2), .val (.int p3), .val (.int p4), .val (.int v2), .val (.int v4), .val (.int v6), .val (.int v8), .val (.int v10), .val (.int (0 : Int32)), .val (.int v14), .val (.ref b16), .unset, .unset] [(.int (v4.toInt8.toInt32)), (.int (1 : Int32)), (.ref b16)])) tq → Steps p.tables e below (s₁.setTop (entryFrame m #[(.int p1), (.int p2), (.int p3), (.int p4)] maxLocals)) tq := by
      refine fun tq kq => pre54 tq ?_
      show Steps p.tables e below (T53.setTop (mkF m 115 #[.val (.int p1), .val (.int p2), .val (.int p3), .val (.int p4), .val (.int v2), .val (.int v4), .val (.int v6), .val (.int v8), .val (.int v10), .val (.int (0 : Int32)), .val (.int v14), .val (.ref b16), .unset, .unset] [])) _
      refine XS.aload X53.here hx rfl (hb hby at_115) rfl rfl ?_
      show Steps p.tables e below (T53.setTop (mkF m 117 #[.val (.int p1), .val (.int p2), .val (.int p3), .val (.int p4), .val (.int v2), .val (.int v4), .val (.int v6), .val (.int v8), .val (.int v10), .val (.int (0 : Int32)), .val (.int v14), .val (.ref b16), .unset, .unset] [(.ref b16)])) _
      refine XS.iload X53.here hx rfl (hb hby at_117) rfl ?_
      show Steps p.tables e below (T53.setTop (mkF m 119 #[.val (.int p1), .val (.int p2), .val (.int p3), .val (.int p4), .val (.int v2), .val (.int v4), .val (.int v6), .val (.int v8), .val (.int v10), .val (.int (0 : Int32)), .val (.int v14), .val (.ref b16), .unset, .unset] [(.int (0 : Int32)), (.ref b16)])) _
      refine XS.iconst X53.here hx rfl (hb hby at_119) ?_
      show Steps p.tables e below (T53.setTop (mkF m 120 #[.val (.int p1), .val (.int p2), .val (.int p3), .val (.int p4), .val (.int v2), .val (.int v4), .val (.int v6), .val (.int v8), .val (.int v10), .val (.int (0 : Int32)), .val (.int v14), .val (.ref b16), .unset, .unset] [(.int (1 : Int32)), (.int (0 : Int32)), (.ref b16)])) _
      refine XS.iadd X53.here hx rfl (hb hby at_120) rfl ?_
      show Steps p.tables e below (T53.setTop (mkF m 121 #[.val (.int p1), .val (.int p2), .val (.int p3), .val (.int p4), .val (.int v2), .val (.int v4), .val (.int v6), .val (.int v8), .val (.int v10), .val (.int (0 : Int32)), .val (.int v14), .val (.ref b16), .unset, .unset] [(.int (1 : Int32)), (.ref b16)])) _
      refine XS.iload X53.here hx rfl (hb hby at_121) rfl ?_
      show Steps p.tables e below (T53.setTop (mkF m 123 #[.val (.int p1), .val (.int p2), .val (.int p3), .val (.int p4), .val (.int v2), .val (.int v4), .val (.int v6), .val (.int v8), .val (.int v10), .val (.int (0 : Int32)), .val (.int v14), .val (.ref b16), .unset, .unset] [(.int v4), (.int (1 : Int32)), (.ref b16)])) _
      refine XS.i2b X53.here hx rfl (hb hby at_123) rfl ?_
      exact kq
    have Vc57 := f55
    obtain ⟨cl57, Ar57, Aq57, As57, An57, Ah57, Ag57⟩ := Vc57
    have hin57 : ¬ ((1 : Int32) < 0 ∨ cl57.slots.size ≤ ((1 : Int32)).toNatClampNeg) := inb_of As57 ⟨by decide, by decide⟩
    obtain ⟨T57, h57, X57, e57, W57, st57⟩ := stB X53 hx hZ e53 Ar57 (j := (1 : Int32)) hin57 (g := (mkF m 124 #[.val (.int p1), .val (.int p2), .val (.int p3), .val (.int p4), .val (.int v2), .val (.int v4), .val (.int v6), .val (.int v8), .val (.int v10), .val (.int (0 : Int32)), .val (.int v14), .val (.ref b16), .unset, .unset] [(.int (v4.toInt8.toInt32)), (.int (1 : Int32)), (.ref b16)])) rfl rfl (hb hby at_124)
    have pre58 : ∀ tq, Steps p.tables e below (T57.setTop (mkF m 125 #[.val (.int p1), .val (.int p2), .val (.int p3), .val (.int p4), .val (.int v2), .val (.int v4), .val (.int v6), .val (.int v8), .val (.int v10), .val (.int (0 : Int32)), .val (.int v14), .val (.ref b16), .unset, .unset] [])) tq → Steps p.tables e below (s₁.setTop (entryFrame m #[(.int p1), (.int p2), (.int p3), (.int p4)] maxLocals)) tq := fun tq kq => pre56 tq (st57 _ kq)
    have N57 := Fr.snoc X57 N53 g_b16
    have K57 : Keep h0 h57 [] := Keep.wr K53 W57 (Or.inr sz_b16)
    have f59 : Arv Z h57 b16 k16 .byte (8 : Int32) [(.int (nar .byte (v2.toInt8.toInt32))), (.int (nar .byte (v4.toInt8.toInt32))), (.int (nar .byte v14)), (.int (nar .byte v14)), (.int (nar .byte v14)), (.int (nar .byte v14)), (.int (nar .byte v14)), (.int (nar .byte v14))] (.int (0 : Int32)) := Arv.set Ar57 Aq57 As57 An57 Ah57 Ag57 (fits_nar_byte _) W57 1 rfl (Nat.le_of_ble_eq_true rfl)
    have pre60 : ∀ tq, Steps p.tables e below (T57.setTop (mkF m 134 #[.val (.int p1), .val (.int p2), .val (.int p3), .val (.int p4), .val (.int v2), .val (.int v4), .val (.int v6), .val (.int v8), .val (.int v10), .val (.int (0 : Int32)), .val (.int v14), .val (.ref b16), .unset, .unset] [(.int (v6.toInt8.toInt32)), (.int (2 : Int32)), (.ref b16)])) tq → Steps p.tables e below (s₁.setTop (entryFrame m #[(.int p1), (.int p2), (.int p3), (.int p4)] maxLocals)) tq := by
      refine fun tq kq => pre58 tq ?_
      show Steps p.tables e below (T57.setTop (mkF m 125 #[.val (.int p1), .val (.int p2), .val (.int p3), .val (.int p4), .val (.int v2), .val (.int v4), .val (.int v6), .val (.int v8), .val (.int v10), .val (.int (0 : Int32)), .val (.int v14), .val (.ref b16), .unset, .unset] [])) _
      refine XS.aload X57.here hx rfl (hb hby at_125) rfl rfl ?_
      show Steps p.tables e below (T57.setTop (mkF m 127 #[.val (.int p1), .val (.int p2), .val (.int p3), .val (.int p4), .val (.int v2), .val (.int v4), .val (.int v6), .val (.int v8), .val (.int v10), .val (.int (0 : Int32)), .val (.int v14), .val (.ref b16), .unset, .unset] [(.ref b16)])) _
      refine XS.iload X57.here hx rfl (hb hby at_127) rfl ?_
      show Steps p.tables e below (T57.setTop (mkF m 129 #[.val (.int p1), .val (.int p2), .val (.int p3), .val (.int p4), .val (.int v2), .val (.int v4), .val (.int v6), .val (.int v8), .val (.int v10), .val (.int (0 : Int32)), .val (.int v14), .val (.ref b16), .unset, .unset] [(.int (0 : Int32)), (.ref b16)])) _
      refine XS.iconst X57.here hx rfl (hb hby at_129) ?_
      show Steps p.tables e below (T57.setTop (mkF m 130 #[.val (.int p1), .val (.int p2), .val (.int p3), .val (.int p4), .val (.int v2), .val (.int v4), .val (.int v6), .val (.int v8), .val (.int v10), .val (.int (0 : Int32)), .val (.int v14), .val (.ref b16), .unset, .unset] [(.int (2 : Int32)), (.int (0 : Int32)), (.ref b16)])) _
      refine XS.iadd X57.here hx rfl (hb hby at_130) rfl ?_
      show Steps p.tables e below (T57.setTop (mkF m 131 #[.val (.int p1), .val (.int p2), .val (.int p3), .val (.int p4), .val (.int v2), .val (.int v4), .val (.int v6), .val (.int v8), .val (.int v10), .val (.int (0 : Int32)), .val (.int v14), .val (.ref b16), .unset, .unset] [(.int (2 : Int32)), (.ref b16)])) _
      refine XS.iload X57.here hx rfl (hb hby at_131) rfl ?_
      show Steps p.tables e below (T57.setTop (mkF m 133 #[.val (.int p1), .val (.int p2), .val (.int p3), .val (.int p4), .val (.int v2), .val (.int v4), .val (.int v6), .val (.int v8), .val (.int v10), .val (.int (0 : Int32)), .val (.int v14), .val (.ref b16), .unset, .unset] [(.int v6), (.int (2 : Int32)), (.ref b16)])) _
      refine XS.i2b X57.here hx rfl (hb hby at_133) rfl ?_
      exact kq
    have Vc61 := f59
    obtain ⟨cl61, Ar61, Aq61, As61, An61, Ah61, Ag61⟩ := Vc61
    have hin61 : ¬ ((2 : Int32) < 0 ∨ cl61.slots.size ≤ ((2 : Int32)).toNatClampNeg) := inb_of As61 ⟨by decide, by decide⟩
    obtain ⟨T61, h61, X61, e61, W61, st61⟩ := stB X57 hx hZ e57 Ar61 (j := (2 : Int32)) hin61 (g := (mkF m 134 #[.val (.int p1), .val (.int p2), .val (.int p3), .val (.int p4), .val (.int v2), .val (.int v4), .val (.int v6), .val (.int v8), .val (.int v10), .val (.int (0 : Int32)), .val (.int v14), .val (.ref b16), .unset, .unset] [(.int (v6.toInt8.toInt32)), (.int (2 : Int32)), (.ref b16)])) rfl rfl (hb hby at_134)
    have pre62 : ∀ tq, Steps p.tables e below (T61.setTop (mkF m 135 #[.val (.int p1), .val (.int p2), .val (.int p3), .val (.int p4), .val (.int v2), .val (.int v4), .val (.int v6), .val (.int v8), .val (.int v10), .val (.int (0 : Int32)), .val (.int v14), .val (.ref b16), .unset, .unset] [])) tq → Steps p.tables e below (s₁.setTop (entryFrame m #[(.int p1), (.int p2), (.int p3), (.int p4)] maxLocals)) tq := fun tq kq => pre60 tq (st61 _ kq)
    have N61 := Fr.snoc X61 N57 g_b16
    have K61 : Keep h0 h61 [] := Keep.wr K57 W61 (Or.inr sz_b16)
    have f63 : Arv Z h61 b16 k16 .byte (8 : Int32) [(.int (nar .byte (v2.toInt8.toInt32))), (.int (nar .byte (v4.toInt8.toInt32))), (.int (nar .byte (v6.toInt8.toInt32))), (.int (nar .byte v14)), (.int (nar .byte v14)), (.int (nar .byte v14)), (.int (nar .byte v14)), (.int (nar .byte v14))] (.int (0 : Int32)) := Arv.set Ar61 Aq61 As61 An61 Ah61 Ag61 (fits_nar_byte _) W61 2 rfl (Nat.le_of_ble_eq_true rfl)
    have pre64 : ∀ tq, Steps p.tables e below (T61.setTop (mkF m 144 #[.val (.int p1), .val (.int p2), .val (.int p3), .val (.int p4), .val (.int v2), .val (.int v4), .val (.int v6), .val (.int v8), .val (.int v10), .val (.int (0 : Int32)), .val (.int v14), .val (.ref b16), .unset, .unset] [(.int (v8.toInt8.toInt32)), (.int (3 : Int32)), (.ref b16)])) tq → Steps p.tables e below (s₁.setTop (entryFrame m #[(.int p1), (.int p2), (.int p3), (.int p4)] maxLocals)) tq := by
      refine fun tq kq => pre62 tq ?_
      show Steps p.tables e below (T61.setTop (mkF m 135 #[.val (.int p1), .val (.int p2), .val (.int p3), .val (.int p4), .val (.int v2), .val (.int v4), .val (.int v6), .val (.int v8), .val (.int v10), .val (.int (0 : Int32)), .val (.int v14), .val (.ref b16), .unset, .unset] [])) _
      refine XS.aload X61.here hx rfl (hb hby at_135) rfl rfl ?_
      show Steps p.tables e below (T61.setTop (mkF m 137 #[.val (.int p1), .val (.int p2), .val (.int p3), .val (.int p4), .val (.int v2), .val (.int v4), .val (.int v6), .val (.int v8), .val (.int v10), .val (.int (0 : Int32)), .val (.int v14), .val (.ref b16), .unset, .unset] [(.ref b16)])) _
      refine XS.iload X61.here hx rfl (hb hby at_137) rfl ?_
      show Steps p.tables e below (T61.setTop (mkF m 139 #[.val (.int p1), .val (.int p2), .val (.int p3), .val (.int p4), .val (.int v2), .val (.int v4), .val (.int v6), .val (.int v8), .val (.int v10), .val (.int (0 : Int32)), .val (.int v14), .val (.ref b16), .unset, .unset] [(.int (0 : Int32)), (.ref b16)])) _
      refine XS.iconst X61.here hx rfl (hb hby at_139) ?_
      show Steps p.tables e below (T61.setTop (mkF m 140 #[.val (.int p1), .val (.int p2), .val (.int p3), .val (.int p4), .val (.int v2), .val (.int v4), .val (.int v6), .val (.int v8), .val (.int v10), .val (.int (0 : Int32)), .val (.int v14), .val (.ref b16), .unset, .unset] [(.int (3 : Int32)), (.int (0 : Int32)), (.ref b16)])) _
      refine XS.iadd X61.here hx rfl (hb hby at_140) rfl ?_
      show Steps p.tables e below (T61.setTop (mkF m 141 #[.val (.int p1), .val (.int p2), .val (.int p3), .val (.int p4), .val (.int v2), .val (.int v4), .val (.int v6), .val (.int v8), .val (.int v10), .val (.int (0 : Int32)), .val (.int v14), .val (.ref b16), .unset, .unset] [(.int (3 : Int32)), (.ref b16)])) _
      refine XS.iload X61.here hx rfl (hb hby at_141) rfl ?_
      show Steps p.tables e below (T61.setTop (mkF m 143 #[.val (.int p1), .val (.int p2), .val (.int p3), .val (.int p4), .val (.int v2), .val (.int v4), .val (.int v6), .val (.int v8), .val (.int v10), .val (.int (0 : Int32)), .val (.int v14), .val (.ref b16), .unset, .unset] [(.int v8), (.int (3 : Int32)), (.ref b16)])) _
      refine XS.i2b X61.here hx rfl (hb hby at_143) rfl ?_
      exact kq
    have Vc65 := f63
    obtain ⟨cl65, Ar65, Aq65, As65, An65, Ah65, Ag65⟩ := Vc65
    have hin65 : ¬ ((3 : Int32) < 0 ∨ cl65.slots.size ≤ ((3 : Int32)).toNatClampNeg) := inb_of As65 ⟨by decide, by decide⟩
    obtain ⟨T65, h65, X65, e65, W65, st65⟩ := stB X61 hx hZ e61 Ar65 (j := (3 : Int32)) hin65 (g := (mkF m 144 #[.val (.int p1), .val (.int p2), .val (.int p3), .val (.int p4), .val (.int v2), .val (.int v4), .val (.int v6), .val (.int v8), .val (.int v10), .val (.int (0 : Int32)), .val (.int v14), .val (.ref b16), .unset, .unset] [(.int (v8.toInt8.toInt32)), (.int (3 : Int32)), (.ref b16)])) rfl rfl (hb hby at_144)
    have pre66 : ∀ tq, Steps p.tables e below (T65.setTop (mkF m 145 #[.val (.int p1), .val (.int p2), .val (.int p3), .val (.int p4), .val (.int v2), .val (.int v4), .val (.int v6), .val (.int v8), .val (.int v10), .val (.int (0 : Int32)), .val (.int v14), .val (.ref b16), .unset, .unset] [])) tq → Steps p.tables e below (s₁.setTop (entryFrame m #[(.int p1), (.int p2), (.int p3), (.int p4)] maxLocals)) tq := fun tq kq => pre64 tq (st65 _ kq)
    have N65 := Fr.snoc X65 N61 g_b16
    have K65 : Keep h0 h65 [] := Keep.wr K61 W65 (Or.inr sz_b16)
    have f67 : Arv Z h65 b16 k16 .byte (8 : Int32) [(.int (nar .byte (v2.toInt8.toInt32))), (.int (nar .byte (v4.toInt8.toInt32))), (.int (nar .byte (v6.toInt8.toInt32))), (.int (nar .byte (v8.toInt8.toInt32))), (.int (nar .byte v14)), (.int (nar .byte v14)), (.int (nar .byte v14)), (.int (nar .byte v14))] (.int (0 : Int32)) := Arv.set Ar65 Aq65 As65 An65 Ah65 Ag65 (fits_nar_byte _) W65 3 rfl (Nat.le_of_ble_eq_true rfl)
    have pre68 : ∀ tq, Steps p.tables e below (T65.setTop (mkF m 154 #[.val (.int p1), .val (.int p2), .val (.int p3), .val (.int p4), .val (.int v2), .val (.int v4), .val (.int v6), .val (.int v8), .val (.int v10), .val (.int (0 : Int32)), .val (.int v14), .val (.ref b16), .unset, .unset] [(.int (v10.toInt8.toInt32)), (.int (4 : Int32)), (.ref b16)])) tq → Steps p.tables e below (s₁.setTop (entryFrame m #[(.int p1), (.int p2), (.int p3), (.int p4)] maxLocals)) tq := by
      refine fun tq kq => pre66 tq ?_
      show Steps p.tables e below (T65.setTop (mkF m 145 #[.val (.int p1), .val (.int p2), .val (.int p3), .val (.int p4), .val (.int v2), .val (.int v4), .val (.int v6), .val (.int v8), .val (.int v10), .val (.int (0 : Int32)), .val (.int v14), .val (.ref b16), .unset, .unset] [])) _
      refine XS.aload X65.here hx rfl (hb hby at_145) rfl rfl ?_
      show Steps p.tables e below (T65.setTop (mkF m 147 #[.val (.int p1), .val (.int p2), .val (.int p3), .val (.int p4), .val (.int v2), .val (.int v4), .val (.int v6), .val (.int v8), .val (.int v10), .val (.int (0 : Int32)), .val (.int v14), .val (.ref b16), .unset, .unset] [(.ref b16)])) _
      refine XS.iload X65.here hx rfl (hb hby at_147) rfl ?_
      show Steps p.tables e below (T65.setTop (mkF m 149 #[.val (.int p1), .val (.int p2), .val (.int p3), .val (.int p4), .val (.int v2), .val (.int v4), .val (.int v6), .val (.int v8), .val (.int v10), .val (.int (0 : Int32)), .val (.int v14), .val (.ref b16), .unset, .unset] [(.int (0 : Int32)), (.ref b16)])) _
      refine XS.iconst X65.here hx rfl (hb hby at_149) ?_
      show Steps p.tables e below (T65.setTop (mkF m 150 #[.val (.int p1), .val (.int p2), .val (.int p3), .val (.int p4), .val (.int v2), .val (.int v4), .val (.int v6), .val (.int v8), .val (.int v10), .val (.int (0 : Int32)), .val (.int v14), .val (.ref b16), .unset, .unset] [(.int (4 : Int32)), (.int (0 : Int32)), (.ref b16)])) _
      refine XS.iadd X65.here hx rfl (hb hby at_150) rfl ?_
      show Steps p.tables e below (T65.setTop (mkF m 151 #[.val (.int p1), .val (.int p2), .val (.int p3), .val (.int p4), .val (.int v2), .val (.int v4), .val (.int v6), .val (.int v8), .val (.int v10), .val (.int (0 : Int32)), .val (.int v14), .val (.ref b16), .unset, .unset] [(.int (4 : Int32)), (.ref b16)])) _
      refine XS.iload X65.here hx rfl (hb hby at_151) rfl ?_
      show Steps p.tables e below (T65.setTop (mkF m 153 #[.val (.int p1), .val (.int p2), .val (.int p3), .val (.int p4), .val (.int v2), .val (.int v4), .val (.int v6), .val (.int v8), .val (.int v10), .val (.int (0 : Int32)), .val (.int v14), .val (.ref b16), .unset, .unset] [(.int v10), (.int (4 : Int32)), (.ref b16)])) _
      refine XS.i2b X65.here hx rfl (hb hby at_153) rfl ?_
      exact kq
    have Vc69 := f67
    obtain ⟨cl69, Ar69, Aq69, As69, An69, Ah69, Ag69⟩ := Vc69
    have hin69 : ¬ ((4 : Int32) < 0 ∨ cl69.slots.size ≤ ((4 : Int32)).toNatClampNeg) := inb_of As69 ⟨by decide, by decide⟩
    obtain ⟨T69, h69, X69, e69, W69, st69⟩ := stB X65 hx hZ e65 Ar69 (j := (4 : Int32)) hin69 (g := (mkF m 154 #[.val (.int p1), .val (.int p2), .val (.int p3), .val (.int p4), .val (.int v2), .val (.int v4), .val (.int v6), .val (.int v8), .val (.int v10), .val (.int (0 : Int32)), .val (.int v14), .val (.ref b16), .unset, .unset] [(.int (v10.toInt8.toInt32)), (.int (4 : Int32)), (.ref b16)])) rfl rfl (hb hby at_154)
    have pre70 : ∀ tq, Steps p.tables e below (T69.setTop (mkF m 155 #[.val (.int p1), .val (.int p2), .val (.int p3), .val (.int p4), .val (.int v2), .val (.int v4), .val (.int v6), .val (.int v8), .val (.int v10), .val (.int (0 : Int32)), .val (.int v14), .val (.ref b16), .unset, .unset] [])) tq → Steps p.tables e below (s₁.setTop (entryFrame m #[(.int p1), (.int p2), (.int p3), (.int p4)] maxLocals)) tq := fun tq kq => pre68 tq (st69 _ kq)
    have N69 := Fr.snoc X69 N65 g_b16
    have K69 : Keep h0 h69 [] := Keep.wr K65 W69 (Or.inr sz_b16)
    have f71 : Arv Z h69 b16 k16 .byte (8 : Int32) [(.int (nar .byte (v2.toInt8.toInt32))), (.int (nar .byte (v4.toInt8.toInt32))), (.int (nar .byte (v6.toInt8.toInt32))), (.int (nar .byte (v8.toInt8.toInt32))), (.int (nar .byte (v10.toInt8.toInt32))), (.int (nar .byte v14)), (.int (nar .byte v14)), (.int (nar .byte v14))] (.int (0 : Int32)) := Arv.set Ar69 Aq69 As69 An69 Ah69 Ag69 (fits_nar_byte _) W69 4 rfl (Nat.le_of_ble_eq_true rfl)
    obtain ⟨v72, hj73, pre73⟩ : ∃ v72 : Int32, (((223 : Int32) < v2 ∧ (239 : Int32) < v2 ∧ v72 = (4 : Int32)) ∨ ((223 : Int32) < v2 ∧ ¬ ((239 : Int32) < v2) ∧ v72 = (3 : Int32)) ∨ (¬ ((223 : Int32) < v2) ∧ v72 = (2 : Int32))) ∧ (∀ tq, Steps p.tables e below (T69.setTop (mkF m 180 #[.val (.int p1), .val (.int p2), .val (.int p3), .val (.int p4), .val (.int v2), .val (.int v4), .val (.int v6), .val (.int v8), .val (.int v10), .val (.int (0 : Int32)), .val (.int v14), .val (.ref b16), .unset, .unset] [(.int v72)])) tq → Steps p.tables e below (s₁.setTop (entryFrame m #[(.int p1), (.int p2), (.int p3), (.int p4)] maxLocals)) tq) := by
      by_cases hb0_160 : (223 : Int32) < v2
      · skip
        by_cases hb1_172 : (239 : Int32) < v2
        · skip
          refine ⟨(4 : Int32), Or.inl (⟨hb0_160, hb1_172, rfl⟩), fun tq kq => pre70 tq ?_⟩
          show Steps p.tables e below (T69.setTop (mkF m 155 #[.val (.int p1), .val (.int p2), .val (.int p3), .val (.int p4), .val (.int v2), .val (.int v4), .val (.int v6), .val (.int v8), .val (.int v10), .val (.int (0 : Int32)), .val (.int v14), .val (.ref b16), .unset, .unset] [])) _
          refine XS.iload X69.here hx rfl (hb hby at_155) rfl ?_
          show Steps p.tables e below (T69.setTop (mkF m 157 #[.val (.int p1), .val (.int p2), .val (.int p3), .val (.int p4), .val (.int v2), .val (.int v4), .val (.int v6), .val (.int v8), .val (.int v10), .val (.int (0 : Int32)), .val (.int v14), .val (.ref b16), .unset, .unset] [(.int v2)])) _
          refine XS.sipush X69.here hx rfl (hb hby at_157) ?_
          show Steps p.tables e below (T69.setTop (mkF m 160 #[.val (.int p1), .val (.int p2), .val (.int p3), .val (.int p4), .val (.int v2), .val (.int v4), .val (.int v6), .val (.int v8), .val (.int v10), .val (.int (0 : Int32)), .val (.int v14), .val (.ref b16), .unset, .unset] [(.int (223 : Int32)), (.int v2)])) _
          refine XS.icmpYes X69.here hx rfl (pc0 := 160) (pc' := 167) rfl (hb hby at_160) rfl (tlt hb0_160).2.2.1 (by decide) (by decide) ?_
          show Steps p.tables e below (T69.setTop (mkF m 167 #[.val (.int p1), .val (.int p2), .val (.int p3), .val (.int p4), .val (.int v2), .val (.int v4), .val (.int v6), .val (.int v8), .val (.int v10), .val (.int (0 : Int32)), .val (.int v14), .val (.ref b16), .unset, .unset] [])) _
          refine XS.iload X69.here hx rfl (hb hby at_167) rfl ?_
          show Steps p.tables e below (T69.setTop (mkF m 169 #[.val (.int p1), .val (.int p2), .val (.int p3), .val (.int p4), .val (.int v2), .val (.int v4), .val (.int v6), .val (.int v8), .val (.int v10), .val (.int (0 : Int32)), .val (.int v14), .val (.ref b16), .unset, .unset] [(.int v2)])) _
          refine XS.sipush X69.here hx rfl (hb hby at_169) ?_
          show Steps p.tables e below (T69.setTop (mkF m 172 #[.val (.int p1), .val (.int p2), .val (.int p3), .val (.int p4), .val (.int v2), .val (.int v4), .val (.int v6), .val (.int v8), .val (.int v10), .val (.int (0 : Int32)), .val (.int v14), .val (.ref b16), .unset, .unset] [(.int (239 : Int32)), (.int v2)])) _
          refine XS.icmpYes X69.here hx rfl (pc0 := 172) (pc' := 179) rfl (hb hby at_172) rfl (tlt hb1_172).2.2.1 (by decide) (by decide) ?_
          show Steps p.tables e below (T69.setTop (mkF m 179 #[.val (.int p1), .val (.int p2), .val (.int p3), .val (.int p4), .val (.int v2), .val (.int v4), .val (.int v6), .val (.int v8), .val (.int v10), .val (.int (0 : Int32)), .val (.int v14), .val (.ref b16), .unset, .unset] [])) _
          refine XS.iconst X69.here hx rfl (hb hby at_179) ?_
          exact kq
        · skip
          refine ⟨(3 : Int32), Or.inr (Or.inl (⟨hb0_160, hb1_172, rfl⟩)), fun tq kq => pre70 tq ?_⟩
          show Steps p.tables e below (T69.setTop (mkF m 155 #[.val (.int p1), .val (.int p2), .val (.int p3), .val (.int p4), .val (.int v2), .val (.int v4), .val (.int v6), .val (.int v8), .val (.int v10), .val (.int (0 : Int32)), .val (.int v14), .val (.ref b16), .unset, .unset] [])) _
          refine XS.iload X69.here hx rfl (hb hby at_155) rfl ?_
          show Steps p.tables e below (T69.setTop (mkF m 157 #[.val (.int p1), .val (.int p2), .val (.int p3), .val (.int p4), .val (.int v2), .val (.int v4), .val (.int v6), .val (.int v8), .val (.int v10), .val (.int (0 : Int32)), .val (.int v14), .val (.ref b16), .unset, .unset] [(.int v2)])) _
          refine XS.sipush X69.here hx rfl (hb hby at_157) ?_
          show Steps p.tables e below (T69.setTop (mkF m 160 #[.val (.int p1), .val (.int p2), .val (.int p3), .val (.int p4), .val (.int v2), .val (.int v4), .val (.int v6), .val (.int v8), .val (.int v10), .val (.int (0 : Int32)), .val (.int v14), .val (.ref b16), .unset, .unset] [(.int (223 : Int32)), (.int v2)])) _
          refine XS.icmpYes X69.here hx rfl (pc0 := 160) (pc' := 167) rfl (hb hby at_160) rfl (tlt hb0_160).2.2.1 (by decide) (by decide) ?_
          show Steps p.tables e below (T69.setTop (mkF m 167 #[.val (.int p1), .val (.int p2), .val (.int p3), .val (.int p4), .val (.int v2), .val (.int v4), .val (.int v6), .val (.int v8), .val (.int v10), .val (.int (0 : Int32)), .val (.int v14), .val (.ref b16), .unset, .unset] [])) _
          refine XS.iload X69.here hx rfl (hb hby at_167) rfl ?_
          show Steps p.tables e below (T69.setTop (mkF m 169 #[.val (.int p1), .val (.int p2), .val (.int p3), .val (.int p4), .val (.int v2), .val (.int v4), .val (.int v6), .val (.int v8), .val (.int v10), .val (.int (0 : Int32)), .val (.int v14), .val (.ref b16), .unset, .unset] [(.int v2)])) _
          refine XS.sipush X69.here hx rfl (hb hby at_169) ?_
          show Steps p.tables e below (T69.setTop (mkF m 172 #[.val (.int p1), .val (.int p2), .val (.int p3), .val (.int p4), .val (.int v2), .val (.int v4), .val (.int v6), .val (.int v8), .val (.int v10), .val (.int (0 : Int32)), .val (.int v14), .val (.ref b16), .unset, .unset] [(.int (239 : Int32)), (.int v2)])) _
          refine XS.icmpNo X69.here hx rfl (hb hby at_172) rfl (flt hb1_172).2.2.1 ?_
          show Steps p.tables e below (T69.setTop (mkF m 175 #[.val (.int p1), .val (.int p2), .val (.int p3), .val (.int p4), .val (.int v2), .val (.int v4), .val (.int v6), .val (.int v8), .val (.int v10), .val (.int (0 : Int32)), .val (.int v14), .val (.ref b16), .unset, .unset] [])) _
          refine XS.iconst X69.here hx rfl (hb hby at_175) ?_
          show Steps p.tables e below (T69.setTop (mkF m 176 #[.val (.int p1), .val (.int p2), .val (.int p3), .val (.int p4), .val (.int v2), .val (.int v4), .val (.int v6), .val (.int v8), .val (.int v10), .val (.int (0 : Int32)), .val (.int v14), .val (.ref b16), .unset, .unset] [(.int (3 : Int32))])) _
          refine XS.goto X69.here hx rfl (pc0 := 176) (pc' := 180) rfl (hb hby at_176) (by decide) (by decide) ?_
          exact kq
      · skip
        refine ⟨(2 : Int32), Or.inr (Or.inr (⟨hb0_160, rfl⟩)), fun tq kq => pre70 tq ?_⟩
        show Steps p.tables e below (T69.setTop (mkF m 155 #[.val (.int p1), .val (.int p2), .val (.int p3), .val (.int p4), .val (.int v2), .val (.int v4), .val (.int v6), .val (.int v8), .val (.int v10), .val (.int (0 : Int32)), .val (.int v14), .val (.ref b16), .unset, .unset] [])) _
        refine XS.iload X69.here hx rfl (hb hby at_155) rfl ?_
        show Steps p.tables e below (T69.setTop (mkF m 157 #[.val (.int p1), .val (.int p2), .val (.int p3), .val (.int p4), .val (.int v2), .val (.int v4), .val (.int v6), .val (.int v8), .val (.int v10), .val (.int (0 : Int32)), .val (.int v14), .val (.ref b16), .unset, .unset] [(.int v2)])) _
        refine XS.sipush X69.here hx rfl (hb hby at_157) ?_
        show Steps p.tables e below (T69.setTop (mkF m 160 #[.val (.int p1), .val (.int p2), .val (.int p3), .val (.int p4), .val (.int v2), .val (.int v4), .val (.int v6), .val (.int v8), .val (.int v10), .val (.int (0 : Int32)), .val (.int v14), .val (.ref b16), .unset, .unset] [(.int (223 : Int32)), (.int v2)])) _
        refine XS.icmpNo X69.here hx rfl (hb hby at_160) rfl (flt hb0_160).2.2.1 ?_
        show Steps p.tables e below (T69.setTop (mkF m 163 #[.val (.int p1), .val (.int p2), .val (.int p3), .val (.int p4), .val (.int v2), .val (.int v4), .val (.int v6), .val (.int v8), .val (.int v10), .val (.int (0 : Int32)), .val (.int v14), .val (.ref b16), .unset, .unset] [])) _
        refine XS.iconst X69.here hx rfl (hb hby at_163) ?_
        show Steps p.tables e below (T69.setTop (mkF m 164 #[.val (.int p1), .val (.int p2), .val (.int p3), .val (.int p4), .val (.int v2), .val (.int v4), .val (.int v6), .val (.int v8), .val (.int v10), .val (.int (0 : Int32)), .val (.int v14), .val (.ref b16), .unset, .unset] [(.int (2 : Int32))])) _
        refine XS.goto X69.here hx rfl (pc0 := 164) (pc' := 180) rfl (hb hby at_164) (by decide) (by decide) ?_
        exact kq
    have pre74 : ∀ tq, Steps p.tables e below (T69.setTop (mkF m 192 #[.val (.int p1), .val (.int p2), .val (.int p3), .val (.int p4), .val (.int v2), .val (.int v4), .val (.int v6), .val (.int v8), .val (.int v10), .val (.int (0 : Int32)), .val (.int v14), .val (.ref b16), .val (.int v72), .unset] [(.int v8), (.int v6), (.int v4), (.int v72), (.int v2)])) tq → Steps p.tables e below (s₁.setTop (entryFrame m #[(.int p1), (.int p2), (.int p3), (.int p4)] maxLocals)) tq := by
      refine fun tq kq => pre73 tq ?_
      show Steps p.tables e below (T69.setTop (mkF m 180 #[.val (.int p1), .val (.int p2), .val (.int p3), .val (.int p4), .val (.int v2), .val (.int v4), .val (.int v6), .val (.int v8), .val (.int v10), .val (.int (0 : Int32)), .val (.int v14), .val (.ref b16), .unset, .unset] [(.int v72)])) _
      refine XS.istore X69.here hx rfl (hb hby at_180) rfl (l' := #[.val (.int p1), .val (.int p2), .val (.int p3), .val (.int p4), .val (.int v2), .val (.int v4), .val (.int v6), .val (.int v8), .val (.int v10), .val (.int (0 : Int32)), .val (.int v14), .val (.ref b16), .val (.int v72), .unset]) rfl ?_
      show Steps p.tables e below (T69.setTop (mkF m 182 #[.val (.int p1), .val (.int p2), .val (.int p3), .val (.int p4), .val (.int v2), .val (.int v4), .val (.int v6), .val (.int v8), .val (.int v10), .val (.int (0 : Int32)), .val (.int v14), .val (.ref b16), .val (.int v72), .unset] [])) _
      refine XS.iload X69.here hx rfl (hb hby at_182) rfl ?_
      show Steps p.tables e below (T69.setTop (mkF m 184 #[.val (.int p1), .val (.int p2), .val (.int p3), .val (.int p4), .val (.int v2), .val (.int v4), .val (.int v6), .val (.int v8), .val (.int v10), .val (.int (0 : Int32)), .val (.int v14), .val (.ref b16), .val (.int v72), .unset] [(.int v2)])) _
      refine XS.iload X69.here hx rfl (hb hby at_184) rfl ?_
      show Steps p.tables e below (T69.setTop (mkF m 186 #[.val (.int p1), .val (.int p2), .val (.int p3), .val (.int p4), .val (.int v2), .val (.int v4), .val (.int v6), .val (.int v8), .val (.int v10), .val (.int (0 : Int32)), .val (.int v14), .val (.ref b16), .val (.int v72), .unset] [(.int v72), (.int v2)])) _
      refine XS.iload X69.here hx rfl (hb hby at_186) rfl ?_
      show Steps p.tables e below (T69.setTop (mkF m 188 #[.val (.int p1), .val (.int p2), .val (.int p3), .val (.int p4), .val (.int v2), .val (.int v4), .val (.int v6), .val (.int v8), .val (.int v10), .val (.int (0 : Int32)), .val (.int v14), .val (.ref b16), .val (.int v72), .unset] [(.int v4), (.int v72), (.int v2)])) _
      refine XS.iload X69.here hx rfl (hb hby at_188) rfl ?_
      show Steps p.tables e below (T69.setTop (mkF m 190 #[.val (.int p1), .val (.int p2), .val (.int p3), .val (.int p4), .val (.int v2), .val (.int v4), .val (.int v6), .val (.int v8), .val (.int v10), .val (.int (0 : Int32)), .val (.int v14), .val (.ref b16), .val (.int v72), .unset] [(.int v6), (.int v4), (.int v72), (.int v2)])) _
      refine XS.iload X69.here hx rfl (hb hby at_190) rfl ?_
      exact kq
    have Z75 : n0 ≤ h69.size := (Nat.le_trans (Nat.le_trans (Nat.le_trans (Nat.le_trans (Nat.le_trans (Nat.le_trans (Nat.le_trans (Nat.le_trans (Nat.le_trans (Nat.le_trans (Nat.le_trans (Nat.le_trans (Nat.le_trans (Nat.le_trans Z0 E16.1) (Keep.of_wr W20).1) (Keep.of_wr W24).1) (Keep.of_wr W28).1) (Keep.of_wr W32).1) (Keep.of_wr W36).1) (Keep.of_wr W40).1) (Keep.of_wr W44).1) (Keep.of_wr W48).1) (Keep.of_wr W53).1) (Keep.of_wr W57).1) (Keep.of_wr W61).1) (Keep.of_wr W65).1) (Keep.of_wr W69).1)
    obtain ⟨_, _, ⟨T75, L75, k75, n75⟩, -, X75, ⟨Lc75, hQ75, l75, y75, z75⟩, st75⟩ := Jvm.LawKit.callS X69 hx (y := (⟨"com/example/partwise/partwise/storage/Utf8ContinuesSequencePinLaw", "expected", "(IIIII)Z"⟩ : MethodName)) hown (mvT hZ (hw _ (List.mem_of_getElem? (i := 2) rfl))) (mvT hZ (hw _ (List.mem_of_getElem? (i := 3) rfl))) (mvT hZ (hw _ (List.mem_of_getElem? (i := 4) rfl))) (mvT hZ (hw _ (List.mem_of_getElem? (i := 5) rfl))) (by decide) (backOf (W := 0) (rm1 l Z a0 hw [] v2 v72 v4 v6 v8  h69 n0 Z75 (by simp only [Int32.lt_iff_toInt_lt, ← Int32.toInt_inj, Int32.reduceToInt] at hj73 ⊢; omega) (⟨hb5, hb6, hb7⟩)) hZ (hw _ (List.mem_of_getElem? (i := 5) rfl)) (hw _ (List.mem_of_getElem? (i := 4) rfl)) (by decide) (by decide)) (g := (mkF m 192 #[.val (.int p1), .val (.int p2), .val (.int p3), .val (.int p4), .val (.int v2), .val (.int v4), .val (.int v6), .val (.int v8), .val (.int v10), .val (.int (0 : Int32)), .val (.int v14), .val (.ref b16), .val (.int v72), .unset] [(.int v8), (.int v6), (.int v4), (.int v72), (.int v2)])) rfl (by rw [hml]; rfl) (argsL := [(.int v2), (.int v72), (.int v4), (.int v6), (.int v8)]) (rest := []) (lenOf pd0_0 rfl) rfl (by show 2 * 0 + _ ≤ _; exact Nat.le_of_eq rfl) (hb hby at_192) (fun _ _ => ⟨rfl, e69, (by decide : (0 + 1) + 0 ≤ _), (by decide : (0 + 8) + 0 ≤ _)⟩)
    dsimp only [Pt.U, Pt.locs, Pt.cells, Pt.slots] at X75 l75 y75 z75 st75 hQ75
    subst l75 y75 z75
    obtain ⟨r76, rfl, Nq75, ehq75, hq75⟩ := hQ75
    have N75 := Fr.app N69 Nq75
    have pre77 : ∀ tq, Steps p.tables e below (T75.setTop (mkF m 195 #[.val (.int p1), .val (.int p2), .val (.int p3), .val (.int p4), .val (.int v2), .val (.int v4), .val (.int v6), .val (.int v8), .val (.int v10), .val (.int (0 : Int32)), .val (.int v14), .val (.ref b16), .val (.int v72), .unset] [(.int r76)])) tq → Steps p.tables e below (s₁.setTop (entryFrame m #[(.int p1), (.int p2), (.int p3), (.int p4)] maxLocals)) tq := fun tq kq => pre74 tq (st75 _ kq)
    have pre78 : ∀ tq, Steps p.tables e below (T75.setTop (mkF m 203 #[.val (.int p1), .val (.int p2), .val (.int p3), .val (.int p4), .val (.int v2), .val (.int v4), .val (.int v6), .val (.int v8), .val (.int v10), .val (.int (0 : Int32)), .val (.int v14), .val (.ref b16), .val (.int v72), .val (.int r76)] [(.int v72), (.int (0 : Int32)), (.ref b16)])) tq → Steps p.tables e below (s₁.setTop (entryFrame m #[(.int p1), (.int p2), (.int p3), (.int p4)] maxLocals)) tq := by
      refine fun tq kq => pre77 tq ?_
      show Steps p.tables e below (T75.setTop (mkF m 195 #[.val (.int p1), .val (.int p2), .val (.int p3), .val (.int p4), .val (.int v2), .val (.int v4), .val (.int v6), .val (.int v8), .val (.int v10), .val (.int (0 : Int32)), .val (.int v14), .val (.ref b16), .val (.int v72), .unset] [(.int r76)])) _
      refine XS.istore X75.here hx rfl (hb hby at_195) rfl (l' := #[.val (.int p1), .val (.int p2), .val (.int p3), .val (.int p4), .val (.int v2), .val (.int v4), .val (.int v6), .val (.int v8), .val (.int v10), .val (.int (0 : Int32)), .val (.int v14), .val (.ref b16), .val (.int v72), .val (.int r76)]) rfl ?_
      show Steps p.tables e below (T75.setTop (mkF m 197 #[.val (.int p1), .val (.int p2), .val (.int p3), .val (.int p4), .val (.int v2), .val (.int v4), .val (.int v6), .val (.int v8), .val (.int v10), .val (.int (0 : Int32)), .val (.int v14), .val (.ref b16), .val (.int v72), .val (.int r76)] [])) _
      refine XS.aload X75.here hx rfl (hb hby at_197) rfl rfl ?_
      show Steps p.tables e below (T75.setTop (mkF m 199 #[.val (.int p1), .val (.int p2), .val (.int p3), .val (.int p4), .val (.int v2), .val (.int v4), .val (.int v6), .val (.int v8), .val (.int v10), .val (.int (0 : Int32)), .val (.int v14), .val (.ref b16), .val (.int v72), .val (.int r76)] [(.ref b16)])) _
      refine XS.iload X75.here hx rfl (hb hby at_199) rfl ?_
      show Steps p.tables e below (T75.setTop (mkF m 201 #[.val (.int p1), .val (.int p2), .val (.int p3), .val (.int p4), .val (.int v2), .val (.int v4), .val (.int v6), .val (.int v8), .val (.int v10), .val (.int (0 : Int32)), .val (.int v14), .val (.ref b16), .val (.int v72), .val (.int r76)] [(.int (0 : Int32)), (.ref b16)])) _
      refine XS.iload X75.here hx rfl (hb hby at_201) rfl ?_
      exact kq
    have Z79 : n0 ≤ h69.size := (Nat.le_trans (Nat.le_trans (Nat.le_trans (Nat.le_trans (Nat.le_trans (Nat.le_trans (Nat.le_trans (Nat.le_trans (Nat.le_trans (Nat.le_trans (Nat.le_trans (Nat.le_trans (Nat.le_trans (Nat.le_trans Z0 E16.1) (Keep.of_wr W20).1) (Keep.of_wr W24).1) (Keep.of_wr W28).1) (Keep.of_wr W32).1) (Keep.of_wr W36).1) (Keep.of_wr W40).1) (Keep.of_wr W44).1) (Keep.of_wr W48).1) (Keep.of_wr W53).1) (Keep.of_wr W57).1) (Keep.of_wr W61).1) (Keep.of_wr W65).1) (Keep.of_wr W69).1)
    obtain ⟨_, _, ⟨T79, L79, k79, n79⟩, -, X79, ⟨Lc79, hQ79, l79, y79, z79⟩, st79⟩ := Jvm.LawKit.callS X75 hx (y := (⟨"com/example/partwise/partwise/storage/Utf8", "continuesSequence", "([BII)Z"⟩ : MethodName)) hown (mvT hZ (hw _ (List.mem_of_getElem? (i := 9) rfl))) (mvT hZ (hw _ (List.mem_of_getElem? (i := 10) rfl))) (mvT hZ (hw _ (List.mem_of_getElem? (i := 11) rfl))) (mvT hZ (hw _ (List.mem_of_getElem? (i := 12) rfl))) (by decide) (backOf (W := 0) (rm3 l Z a0 hw [] b16 (0 : Int32) v72 k16 [(.int (nar .byte (v2.toInt8.toInt32))), (.int (nar .byte (v4.toInt8.toInt32))), (.int (nar .byte (v6.toInt8.toInt32))), (.int (nar .byte (v8.toInt8.toInt32))), (.int (nar .byte (v10.toInt8.toInt32))), (.int (nar .byte v14)), (.int (nar .byte v14)), (.int (nar .byte v14))] (.int (0 : Int32)) (nar .byte (v2.toInt8.toInt32)) (nar .byte (v4.toInt8.toInt32)) (nar .byte (v6.toInt8.toInt32)) (nar .byte (v8.toInt8.toInt32)) h69 n0 Z79 f71 (by decide) (by simp only [Int32.lt_iff_toInt_lt, ← Int32.toInt_inj, Int32.reduceToInt] at hj73 ⊢; omega) (rfl) (rfl) (rfl) (rfl)) hZ (hw _ (List.mem_of_getElem? (i := 12) rfl)) (hw _ (List.mem_of_getElem? (i := 11) rfl)) (by decide) (by decide)) (g := (mkF m 203 #[.val (.int p1), .val (.int p2), .val (.int p3), .val (.int p4), .val (.int v2), .val (.int v4), .val (.int v6), .val (.int v8), .val (.int v10), .val (.int (0 : Int32)), .val (.int v14), .val (.ref b16), .val (.int v72), .val (.int r76)] [(.int v72), (.int (0 : Int32)), (.ref b16)])) rfl (by rw [hml]; rfl) (argsL := [(.ref b16), (.int (0 : Int32)), (.int v72)]) (rest := []) (lenOf pd0_1 rfl) rfl (by show 2 * 0 + _ ≤ _; exact Nat.le_of_eq rfl) (hb hby at_203) (fun _ _ => ⟨rfl, ehq75, (by decide : ((0 + 1) + 0) + 0 ≤ _), (by decide : ((0 + 8) + 0) + 0 ≤ _)⟩)
    dsimp only [Pt.U, Pt.locs, Pt.cells, Pt.slots] at X79 l79 y79 z79 st79 hQ79
    subst l79 y79 z79
    obtain ⟨r80, rfl, Nq79, ehq79, hq79⟩ := hQ79
    have N79 := Fr.app N75 Nq79
    have pre81 : ∀ tq, Steps p.tables e below (T79.setTop (mkF m 206 #[.val (.int p1), .val (.int p2), .val (.int p3), .val (.int p4), .val (.int v2), .val (.int v4), .val (.int v6), .val (.int v8), .val (.int v10), .val (.int (0 : Int32)), .val (.int v14), .val (.ref b16), .val (.int v72), .val (.int r76)] [(.int r80)])) tq → Steps p.tables e below (s₁.setTop (entryFrame m #[(.int p1), (.int p2), (.int p3), (.int p4)] maxLocals)) tq := fun tq kq => pre78 tq (st79 _ kq)
    obtain ⟨v82, hj83, pre83⟩ : ∃ v82 : Int32, ((r80 = r76 ∧ v82 = (1 : Int32)) ∨ (¬ (r80 = r76) ∧ v82 = (0 : Int32))) ∧ (∀ tq, Steps p.tables e below (T79.setTop (mkF m 216 #[.val (.int p1), .val (.int p2), .val (.int p3), .val (.int p4), .val (.int v2), .val (.int v4), .val (.int v6), .val (.int v8), .val (.int v10), .val (.int (0 : Int32)), .val (.int v14), .val (.ref b16), .val (.int v72), .val (.int r76)] [(.int v82)])) tq → Steps p.tables e below (s₁.setTop (entryFrame m #[(.int p1), (.int p2), (.int p3), (.int p4)] maxLocals)) tq) := by
      by_cases hb0_208 : r80 = r76
      · skip
        refine ⟨(1 : Int32), Or.inl (⟨hb0_208, rfl⟩), fun tq kq => pre81 tq ?_⟩
        show Steps p.tables e below (T79.setTop (mkF m 206 #[.val (.int p1), .val (.int p2), .val (.int p3), .val (.int p4), .val (.int v2), .val (.int v4), .val (.int v6), .val (.int v8), .val (.int v10), .val (.int (0 : Int32)), .val (.int v14), .val (.ref b16), .val (.int v72), .val (.int r76)] [(.int r80)])) _
        refine XS.iload X79.here hx rfl (hb hby at_206) rfl ?_
        show Steps p.tables e below (T79.setTop (mkF m 208 #[.val (.int p1), .val (.int p2), .val (.int p3), .val (.int p4), .val (.int v2), .val (.int v4), .val (.int v6), .val (.int v8), .val (.int v10), .val (.int (0 : Int32)), .val (.int v14), .val (.ref b16), .val (.int v72), .val (.int r76)] [(.int r76), (.int r80)])) _
        refine XS.icmpNo X79.here hx rfl (hb hby at_208) rfl (teq hb0_208).2 ?_
        show Steps p.tables e below (T79.setTop (mkF m 211 #[.val (.int p1), .val (.int p2), .val (.int p3), .val (.int p4), .val (.int v2), .val (.int v4), .val (.int v6), .val (.int v8), .val (.int v10), .val (.int (0 : Int32)), .val (.int v14), .val (.ref b16), .val (.int v72), .val (.int r76)] [])) _
        refine XS.iconst X79.here hx rfl (hb hby at_211) ?_
        show Steps p.tables e below (T79.setTop (mkF m 212 #[.val (.int p1), .val (.int p2), .val (.int p3), .val (.int p4), .val (.int v2), .val (.int v4), .val (.int v6), .val (.int v8), .val (.int v10), .val (.int (0 : Int32)), .val (.int v14), .val (.ref b16), .val (.int v72), .val (.int r76)] [(.int (1 : Int32))])) _
        refine XS.goto X79.here hx rfl (pc0 := 212) (pc' := 216) rfl (hb hby at_212) (by decide) (by decide) ?_
        exact kq
      · skip
        refine ⟨(0 : Int32), Or.inr (⟨hb0_208, rfl⟩), fun tq kq => pre81 tq ?_⟩
        show Steps p.tables e below (T79.setTop (mkF m 206 #[.val (.int p1), .val (.int p2), .val (.int p3), .val (.int p4), .val (.int v2), .val (.int v4), .val (.int v6), .val (.int v8), .val (.int v10), .val (.int (0 : Int32)), .val (.int v14), .val (.ref b16), .val (.int v72), .val (.int r76)] [(.int r80)])) _
        refine XS.iload X79.here hx rfl (hb hby at_206) rfl ?_
        show Steps p.tables e below (T79.setTop (mkF m 208 #[.val (.int p1), .val (.int p2), .val (.int p3), .val (.int p4), .val (.int v2), .val (.int v4), .val (.int v6), .val (.int v8), .val (.int v10), .val (.int (0 : Int32)), .val (.int v14), .val (.ref b16), .val (.int v72), .val (.int r76)] [(.int r76), (.int r80)])) _
        refine XS.icmpYes X79.here hx rfl (pc0 := 208) (pc' := 215) rfl (hb hby at_208) rfl (feq hb0_208).2 (by decide) (by decide) ?_
        show Steps p.tables e below (T79.setTop (mkF m 215 #[.val (.int p1), .val (.int p2), .val (.int p3), .val (.int p4), .val (.int v2), .val (.int v4), .val (.int v6), .val (.int v8), .val (.int v10), .val (.int (0 : Int32)), .val (.int v14), .val (.ref b16), .val (.int v72), .val (.int r76)] [])) _
        refine XS.iconst X79.here hx rfl (hb hby at_215) ?_
        exact kq
    have hfin : v82 = 1 := by
      have yb4 := own_byte v2 (by omega) (by omega)
      have yb5 := own_byte v4 (by omega) (by omega)
      have yb6 := own_byte v6 (by omega) (by omega)
      have yb7 := own_byte v8 (by omega) (by omega)
      rw [yb4, yb5, yb6, yb7] at hq79
      simp only [Int32.lt_iff_toInt_lt, ← Int32.toInt_inj, Int32.reduceToInt, true_and, and_true, false_and, and_false, or_false, false_or, not_true_eq_false, not_false_eq_true, true_implies, false_implies] at hq75 hq79 hj73 hj83 ⊢ <;> omega
    subst hfin
    obtain ⟨fs, hr, hrun, hended, hW, hsame⟩ := X79.leave (v := some (.int (1 : Int32))) (fun h => by rw [Bd.returns] at h; cases h)
    refine ⟨_, _, pre83 _ ?_, hrun, hended, _, _, rfl, ?_, ⟨_, rfl⟩, hW, hsame.mono (by decide) (by decide)⟩
    · skip
      show Steps p.tables e below (T79.setTop (mkF m 216 #[.val (.int p1), .val (.int p2), .val (.int p3), .val (.int p4), .val (.int v2), .val (.int v4), .val (.int v6), .val (.int v8), .val (.int v10), .val (.int (0 : Int32)), .val (.int v14), .val (.ref b16), .val (.int v72), .val (.int r76)] [(.int (1 : Int32))])) _
      exact retN X79 hx (t := .boolean) Bd.returns (by simp) (hb hby at_216) hr
    · show Q0 Z p1 p2 p3 p4 h0 n0 _ T79.heap _
      rw [ehq79]
      exact ⟨rfl, N79⟩
  · skip
    subst hk
    have pre84 : ∀ tq, Steps p.tables e below (T48.setTop (mkF m 114 #[.val (.int p1), .val (.int p2), .val (.int p3), .val (.int p4), .val (.int v2), .val (.int v4), .val (.int v6), .val (.int v8), .val (.int v10), .val (.int (1 : Int32)), .val (.int v14), .val (.ref b16), .unset, .unset] [(.int (v2.toInt8.toInt32)), (.int (1 : Int32)), (.ref b16)])) tq → Steps p.tables e below (s₁.setTop (entryFrame m #[(.int p1), (.int p2), (.int p3), (.int p4)] maxLocals)) tq := by
      refine fun tq kq => pre51 tq ?_
      show Steps p.tables e below (T48.setTop (mkF m 107 #[.val (.int p1), .val (.int p2), .val (.int p3), .val (.int p4), .val (.int v2), .val (.int v4), .val (.int v6), .val (.int v8), .val (.int v10), .val (.int (1 : Int32)), .val (.int v14), .val (.ref b16), .unset, .unset] [])) _
      refine XS.aload X48.here hx rfl (hb hby at_107) rfl rfl ?_
      show Steps p.tables e below (T48.setTop (mkF m 109 #[.val (.int p1), .val (.int p2), .val (.int p3), .val (.int p4), .val (.int v2), .val (.int v4), .val (.int v6), .val (.int v8), .val (.int v10), .val (.int (1 : Int32)), .val (.int v14), .val (.ref b16), .unset, .unset] [(.ref b16)])) _
      refine XS.iload X48.here hx rfl (hb hby at_109) rfl ?_
      show Steps p.tables e below (T48.setTop (mkF m 111 #[.val (.int p1), .val (.int p2), .val (.int p3), .val (.int p4), .val (.int v2), .val (.int v4), .val (.int v6), .val (.int v8), .val (.int v10), .val (.int (1 : Int32)), .val (.int v14), .val (.ref b16), .unset, .unset] [(.int (1 : Int32)), (.ref b16)])) _
      refine XS.iload X48.here hx rfl (hb hby at_111) rfl ?_
      show Steps p.tables e below (T48.setTop (mkF m 113 #[.val (.int p1), .val (.int p2), .val (.int p3), .val (.int p4), .val (.int v2), .val (.int v4), .val (.int v6), .val (.int v8), .val (.int v10), .val (.int (1 : Int32)), .val (.int v14), .val (.ref b16), .unset, .unset] [(.int v2), (.int (1 : Int32)), (.ref b16)])) _
      refine XS.i2b X48.here hx rfl (hb hby at_113) rfl ?_
      exact kq
    have Vc85 := f50
    obtain ⟨cl85, Ar85, Aq85, As85, An85, Ah85, Ag85⟩ := Vc85
    have hin85 : ¬ ((1 : Int32) < 0 ∨ cl85.slots.size ≤ ((1 : Int32)).toNatClampNeg) := inb_of As85 ⟨by decide, by decide⟩
    obtain ⟨T85, h85, X85, e85, W85, st85⟩ := stB X48 hx hZ e48 Ar85 (j := (1 : Int32)) hin85 (g := (mkF m 114 #[.val (.int p1), .val (.int p2), .val (.int p3), .val (.int p4), .val (.int v2), .val (.int v4), .val (.int v6), .val (.int v8), .val (.int v10), .val (.int (1 : Int32)), .val (.int v14), .val (.ref b16), .unset, .unset] [(.int (v2.toInt8.toInt32)), (.int (1 : Int32)), (.ref b16)])) rfl rfl (hb hby at_114)
    have pre86 : ∀ tq, Steps p.tables e below (T85.setTop (mkF m 115 #[.val (.int p1), .val (.int p2), .val (.int p3), .val (.int p4), .val (.int v2), .val (.int v4), .val (.int v6), .val (.int v8), .val (.int v10), .val (.int (1 : Int32)), .val (.int v14), .val (.ref b16), .unset, .unset] [])) tq → Steps p.tables e below (s₁.setTop (entryFrame m #[(.int p1), (.int p2), (.int p3), (.int p4)] maxLocals)) tq := fun tq kq => pre84 tq (st85 _ kq)
    have N85 := Fr.snoc X85 N48 g_b16
    have K85 : Keep h0 h85 [] := Keep.wr K48 W85 (Or.inr sz_b16)
    have f87 : Arv Z h85 b16 k16 .byte (8 : Int32) [(.int (nar .byte v14)), (.int (nar .byte (v2.toInt8.toInt32))), (.int (nar .byte v14)), (.int (nar .byte v14)), (.int (nar .byte v14)), (.int (nar .byte v14)), (.int (nar .byte v14)), (.int (nar .byte v14))] (.int (0 : Int32)) := Arv.set Ar85 Aq85 As85 An85 Ah85 Ag85 (fits_nar_byte _) W85 1 rfl (Nat.le_of_ble_eq_true rfl)
    have pre88 : ∀ tq, Steps p.tables e below (T85.setTop (mkF m 124 #[.val (.int p1), .val (.int p2), .val (.int p3), .val (.int p4), .val (.int v2), .val (.int v4), .val (.int v6), .val (.int v8), .val (.int v10), .val (.int (1 : Int32)), .val (.int v14), .val (.ref b16), .unset, .unset] [(.int (v4.toInt8.toInt32)), (.int (2 : Int32)), (.ref b16)])) tq → Steps p.tables e below (s₁.setTop (entryFrame m #[(.int p1), (.int p2), (.int p3), (.int p4)] maxLocals)) tq := by
      refine fun tq kq => pre86 tq ?_
      show Steps p.tables e below (T85.setTop (mkF m 115 #[.val (.int p1), .val (.int p2), .val (.int p3), .val (.int p4), .val (.int v2), .val (.int v4), .val (.int v6), .val (.int v8), .val (.int v10), .val (.int (1 : Int32)), .val (.int v14), .val (.ref b16), .unset, .unset] [])) _
      refine XS.aload X85.here hx rfl (hb hby at_115) rfl rfl ?_
      show Steps p.tables e below (T85.setTop (mkF m 117 #[.val (.int p1), .val (.int p2), .val (.int p3), .val (.int p4), .val (.int v2), .val (.int v4), .val (.int v6), .val (.int v8), .val (.int v10), .val (.int (1 : Int32)), .val (.int v14), .val (.ref b16), .unset, .unset] [(.ref b16)])) _
      refine XS.iload X85.here hx rfl (hb hby at_117) rfl ?_
      show Steps p.tables e below (T85.setTop (mkF m 119 #[.val (.int p1), .val (.int p2), .val (.int p3), .val (.int p4), .val (.int v2), .val (.int v4), .val (.int v6), .val (.int v8), .val (.int v10), .val (.int (1 : Int32)), .val (.int v14), .val (.ref b16), .unset, .unset] [(.int (1 : Int32)), (.ref b16)])) _
      refine XS.iconst X85.here hx rfl (hb hby at_119) ?_
      show Steps p.tables e below (T85.setTop (mkF m 120 #[.val (.int p1), .val (.int p2), .val (.int p3), .val (.int p4), .val (.int v2), .val (.int v4), .val (.int v6), .val (.int v8), .val (.int v10), .val (.int (1 : Int32)), .val (.int v14), .val (.ref b16), .unset, .unset] [(.int (1 : Int32)), (.int (1 : Int32)), (.ref b16)])) _
      refine XS.iadd X85.here hx rfl (hb hby at_120) rfl ?_
      show Steps p.tables e below (T85.setTop (mkF m 121 #[.val (.int p1), .val (.int p2), .val (.int p3), .val (.int p4), .val (.int v2), .val (.int v4), .val (.int v6), .val (.int v8), .val (.int v10), .val (.int (1 : Int32)), .val (.int v14), .val (.ref b16), .unset, .unset] [(.int (2 : Int32)), (.ref b16)])) _
      refine XS.iload X85.here hx rfl (hb hby at_121) rfl ?_
      show Steps p.tables e below (T85.setTop (mkF m 123 #[.val (.int p1), .val (.int p2), .val (.int p3), .val (.int p4), .val (.int v2), .val (.int v4), .val (.int v6), .val (.int v8), .val (.int v10), .val (.int (1 : Int32)), .val (.int v14), .val (.ref b16), .unset, .unset] [(.int v4), (.int (2 : Int32)), (.ref b16)])) _
      refine XS.i2b X85.here hx rfl (hb hby at_123) rfl ?_
      exact kq
    have Vc89 := f87
    obtain ⟨cl89, Ar89, Aq89, As89, An89, Ah89, Ag89⟩ := Vc89
    have hin89 : ¬ ((2 : Int32) < 0 ∨ cl89.slots.size ≤ ((2 : Int32)).toNatClampNeg) := inb_of As89 ⟨by decide, by decide⟩
    obtain ⟨T89, h89, X89, e89, W89, st89⟩ := stB X85 hx hZ e85 Ar89 (j := (2 : Int32)) hin89 (g := (mkF m 124 #[.val (.int p1), .val (.int p2), .val (.int p3), .val (.int p4), .val (.int v2), .val (.int v4), .val (.int v6), .val (.int v8), .val (.int v10), .val (.int (1 : Int32)), .val (.int v14), .val (.ref b16), .unset, .unset] [(.int (v4.toInt8.toInt32)), (.int (2 : Int32)), (.ref b16)])) rfl rfl (hb hby at_124)
    have pre90 : ∀ tq, Steps p.tables e below (T89.setTop (mkF m 125 #[.val (.int p1), .val (.int p2), .val (.int p3), .val (.int p4), .val (.int v2), .val (.int v4), .val (.int v6), .val (.int v8), .val (.int v10), .val (.int (1 : Int32)), .val (.int v14), .val (.ref b16), .unset, .unset] [])) tq → Steps p.tables e below (s₁.setTop (entryFrame m #[(.int p1), (.int p2), (.int p3), (.int p4)] maxLocals)) tq := fun tq kq => pre88 tq (st89 _ kq)
    have N89 := Fr.snoc X89 N85 g_b16
    have K89 : Keep h0 h89 [] := Keep.wr K85 W89 (Or.inr sz_b16)
    have f91 : Arv Z h89 b16 k16 .byte (8 : Int32) [(.int (nar .byte v14)), (.int (nar .byte (v2.toInt8.toInt32))), (.int (nar .byte (v4.toInt8.toInt32))), (.int (nar .byte v14)), (.int (nar .byte v14)), (.int (nar .byte v14)), (.int (nar .byte v14)), (.int (nar .byte v14))] (.int (0 : Int32)) := Arv.set Ar89 Aq89 As89 An89 Ah89 Ag89 (fits_nar_byte _) W89 2 rfl (Nat.le_of_ble_eq_true rfl)
    have pre92 : ∀ tq, Steps p.tables e below (T89.setTop (mkF m 134 #[.val (.int p1), .val (.int p2), .val (.int p3), .val (.int p4), .val (.int v2), .val (.int v4), .val (.int v6), .val (.int v8), .val (.int v10), .val (.int (1 : Int32)), .val (.int v14), .val (.ref b16), .unset, .unset] [(.int (v6.toInt8.toInt32)), (.int (3 : Int32)), (.ref b16)])) tq → Steps p.tables e below (s₁.setTop (entryFrame m #[(.int p1), (.int p2), (.int p3), (.int p4)] maxLocals)) tq := by
      refine fun tq kq => pre90 tq ?_
      show Steps p.tables e below (T89.setTop (mkF m 125 #[.val (.int p1), .val (.int p2), .val (.int p3), .val (.int p4), .val (.int v2), .val (.int v4), .val (.int v6), .val (.int v8), .val (.int v10), .val (.int (1 : Int32)), .val (.int v14), .val (.ref b16), .unset, .unset] [])) _
      refine XS.aload X89.here hx rfl (hb hby at_125) rfl rfl ?_
      show Steps p.tables e below (T89.setTop (mkF m 127 #[.val (.int p1), .val (.int p2), .val (.int p3), .val (.int p4), .val (.int v2), .val (.int v4), .val (.int v6), .val (.int v8), .val (.int v10), .val (.int (1 : Int32)), .val (.int v14), .val (.ref b16), .unset, .unset] [(.ref b16)])) _
      refine XS.iload X89.here hx rfl (hb hby at_127) rfl ?_
      show Steps p.tables e below (T89.setTop (mkF m 129 #[.val (.int p1), .val (.int p2), .val (.int p3), .val (.int p4), .val (.int v2), .val (.int v4), .val (.int v6), .val (.int v8), .val (.int v10), .val (.int (1 : Int32)), .val (.int v14), .val (.ref b16), .unset, .unset] [(.int (1 : Int32)), (.ref b16)])) _
      refine XS.iconst X89.here hx rfl (hb hby at_129) ?_
      show Steps p.tables e below (T89.setTop (mkF m 130 #[.val (.int p1), .val (.int p2), .val (.int p3), .val (.int p4), .val (.int v2), .val (.int v4), .val (.int v6), .val (.int v8), .val (.int v10), .val (.int (1 : Int32)), .val (.int v14), .val (.ref b16), .unset, .unset] [(.int (2 : Int32)), (.int (1 : Int32)), (.ref b16)])) _
      refine XS.iadd X89.here hx rfl (hb hby at_130) rfl ?_
      show Steps p.tables e below (T89.setTop (mkF m 131 #[.val (.int p1), .val (.int p2), .val (.int p3), .val (.int p4), .val (.int v2), .val (.int v4), .val (.int v6), .val (.int v8), .val (.int v10), .val (.int (1 : Int32)), .val (.int v14), .val (.ref b16), .unset, .unset] [(.int (3 : Int32)), (.ref b16)])) _
      refine XS.iload X89.here hx rfl (hb hby at_131) rfl ?_
      show Steps p.tables e below (T89.setTop (mkF m 133 #[.val (.int p1), .val (.int p2), .val (.int p3), .val (.int p4), .val (.int v2), .val (.int v4), .val (.int v6), .val (.int v8), .val (.int v10), .val (.int (1 : Int32)), .val (.int v14), .val (.ref b16), .unset, .unset] [(.int v6), (.int (3 : Int32)), (.ref b16)])) _
      refine XS.i2b X89.here hx rfl (hb hby at_133) rfl ?_
      exact kq
    have Vc93 := f91
    obtain ⟨cl93, Ar93, Aq93, As93, An93, Ah93, Ag93⟩ := Vc93
    have hin93 : ¬ ((3 : Int32) < 0 ∨ cl93.slots.size ≤ ((3 : Int32)).toNatClampNeg) := inb_of As93 ⟨by decide, by decide⟩
    obtain ⟨T93, h93, X93, e93, W93, st93⟩ := stB X89 hx hZ e89 Ar93 (j := (3 : Int32)) hin93 (g := (mkF m 134 #[.val (.int p1), .val (.int p2), .val (.int p3), .val (.int p4), .val (.int v2), .val (.int v4), .val (.int v6), .val (.int v8), .val (.int v10), .val (.int (1 : Int32)), .val (.int v14), .val (.ref b16), .unset, .unset] [(.int (v6.toInt8.toInt32)), (.int (3 : Int32)), (.ref b16)])) rfl rfl (hb hby at_134)
    have pre94 : ∀ tq, Steps p.tables e below (T93.setTop (mkF m 135 #[.val (.int p1), .val (.int p2), .val (.int p3), .val (.int p4), .val (.int v2), .val (.int v4), .val (.int v6), .val (.int v8), .val (.int v10), .val (.int (1 : Int32)), .val (.int v14), .val (.ref b16), .unset, .unset] [])) tq → Steps p.tables e below (s₁.setTop (entryFrame m #[(.int p1), (.int p2), (.int p3), (.int p4)] maxLocals)) tq := fun tq kq => pre92 tq (st93 _ kq)
    have N93 := Fr.snoc X93 N89 g_b16
    have K93 : Keep h0 h93 [] := Keep.wr K89 W93 (Or.inr sz_b16)
    have f95 : Arv Z h93 b16 k16 .byte (8 : Int32) [(.int (nar .byte v14)), (.int (nar .byte (v2.toInt8.toInt32))), (.int (nar .byte (v4.toInt8.toInt32))), (.int (nar .byte (v6.toInt8.toInt32))), (.int (nar .byte v14)), (.int (nar .byte v14)), (.int (nar .byte v14)), (.int (nar .byte v14))] (.int (0 : Int32)) := Arv.set Ar93 Aq93 As93 An93 Ah93 Ag93 (fits_nar_byte _) W93 3 rfl (Nat.le_of_ble_eq_true rfl)
    have pre96 : ∀ tq, Steps p.tables e below (T93.setTop (mkF m 144 #[.val (.int p1), .val (.int p2), .val (.int p3), .val (.int p4), .val (.int v2), .val (.int v4), .val (.int v6), .val (.int v8), .val (.int v10), .val (.int (1 : Int32)), .val (.int v14), .val (.ref b16), .unset, .unset] [(.int (v8.toInt8.toInt32)), (.int (4 : Int32)), (.ref b16)])) tq → Steps p.tables e below (s₁.setTop (entryFrame m #[(.int p1), (.int p2), (.int p3), (.int p4)] maxLocals)) tq := by
      refine fun tq kq => pre94 tq ?_
      show Steps p.tables e below (T93.setTop (mkF m 135 #[.val (.int p1), .val (.int p2), .val (.int p3), .val (.int p4), .val (.int v2), .val (.int v4), .val (.int v6), .val (.int v8), .val (.int v10), .val (.int (1 : Int32)), .val (.int v14), .val (.ref b16), .unset, .unset] [])) _
      refine XS.aload X93.here hx rfl (hb hby at_135) rfl rfl ?_
      show Steps p.tables e below (T93.setTop (mkF m 137 #[.val (.int p1), .val (.int p2), .val (.int p3), .val (.int p4), .val (.int v2), .val (.int v4), .val (.int v6), .val (.int v8), .val (.int v10), .val (.int (1 : Int32)), .val (.int v14), .val (.ref b16), .unset, .unset] [(.ref b16)])) _
      refine XS.iload X93.here hx rfl (hb hby at_137) rfl ?_
      show Steps p.tables e below (T93.setTop (mkF m 139 #[.val (.int p1), .val (.int p2), .val (.int p3), .val (.int p4), .val (.int v2), .val (.int v4), .val (.int v6), .val (.int v8), .val (.int v10), .val (.int (1 : Int32)), .val (.int v14), .val (.ref b16), .unset, .unset] [(.int (1 : Int32)), (.ref b16)])) _
      refine XS.iconst X93.here hx rfl (hb hby at_139) ?_
      show Steps p.tables e below (T93.setTop (mkF m 140 #[.val (.int p1), .val (.int p2), .val (.int p3), .val (.int p4), .val (.int v2), .val (.int v4), .val (.int v6), .val (.int v8), .val (.int v10), .val (.int (1 : Int32)), .val (.int v14), .val (.ref b16), .unset, .unset] [(.int (3 : Int32)), (.int (1 : Int32)), (.ref b16)])) _
      refine XS.iadd X93.here hx rfl (hb hby at_140) rfl ?_
      show Steps p.tables e below (T93.setTop (mkF m 141 #[.val (.int p1), .val (.int p2), .val (.int p3), .val (.int p4), .val (.int v2), .val (.int v4), .val (.int v6), .val (.int v8), .val (.int v10), .val (.int (1 : Int32)), .val (.int v14), .val (.ref b16), .unset, .unset] [(.int (4 : Int32)), (.ref b16)])) _
      refine XS.iload X93.here hx rfl (hb hby at_141) rfl ?_
      show Steps p.tables e below (T93.setTop (mkF m 143 #[.val (.int p1), .val (.int p2), .val (.int p3), .val (.int p4), .val (.int v2), .val (.int v4), .val (.int v6), .val (.int v8), .val (.int v10), .val (.int (1 : Int32)), .val (.int v14), .val (.ref b16), .unset, .unset] [(.int v8), (.int (4 : Int32)), (.ref b16)])) _
      refine XS.i2b X93.here hx rfl (hb hby at_143) rfl ?_
      exact kq
    have Vc97 := f95
    obtain ⟨cl97, Ar97, Aq97, As97, An97, Ah97, Ag97⟩ := Vc97
    have hin97 : ¬ ((4 : Int32) < 0 ∨ cl97.slots.size ≤ ((4 : Int32)).toNatClampNeg) := inb_of As97 ⟨by decide, by decide⟩
    obtain ⟨T97, h97, X97, e97, W97, st97⟩ := stB X93 hx hZ e93 Ar97 (j := (4 : Int32)) hin97 (g := (mkF m 144 #[.val (.int p1), .val (.int p2), .val (.int p3), .val (.int p4), .val (.int v2), .val (.int v4), .val (.int v6), .val (.int v8), .val (.int v10), .val (.int (1 : Int32)), .val (.int v14), .val (.ref b16), .unset, .unset] [(.int (v8.toInt8.toInt32)), (.int (4 : Int32)), (.ref b16)])) rfl rfl (hb hby at_144)
    have pre98 : ∀ tq, Steps p.tables e below (T97.setTop (mkF m 145 #[.val (.int p1), .val (.int p2), .val (.int p3), .val (.int p4), .val (.int v2), .val (.int v4), .val (.int v6), .val (.int v8), .val (.int v10), .val (.int (1 : Int32)), .val (.int v14), .val (.ref b16), .unset, .unset] [])) tq → Steps p.tables e below (s₁.setTop (entryFrame m #[(.int p1), (.int p2), (.int p3), (.int p4)] maxLocals)) tq := fun tq kq => pre96 tq (st97 _ kq)
    have N97 := Fr.snoc X97 N93 g_b16
    have K97 : Keep h0 h97 [] := Keep.wr K93 W97 (Or.inr sz_b16)
    have f99 : Arv Z h97 b16 k16 .byte (8 : Int32) [(.int (nar .byte v14)), (.int (nar .byte (v2.toInt8.toInt32))), (.int (nar .byte (v4.toInt8.toInt32))), (.int (nar .byte (v6.toInt8.toInt32))), (.int (nar .byte (v8.toInt8.toInt32))), (.int (nar .byte v14)), (.int (nar .byte v14)), (.int (nar .byte v14))] (.int (0 : Int32)) := Arv.set Ar97 Aq97 As97 An97 Ah97 Ag97 (fits_nar_byte _) W97 4 rfl (Nat.le_of_ble_eq_true rfl)
    have pre100 : ∀ tq, Steps p.tables e below (T97.setTop (mkF m 154 #[.val (.int p1), .val (.int p2), .val (.int p3), .val (.int p4), .val (.int v2), .val (.int v4), .val (.int v6), .val (.int v8), .val (.int v10), .val (.int (1 : Int32)), .val (.int v14), .val (.ref b16), .unset, .unset] [(.int (v10.toInt8.toInt32)), (.int (5 : Int32)), (.ref b16)])) tq → Steps p.tables e below (s₁.setTop (entryFrame m #[(.int p1), (.int p2), (.int p3), (.int p4)] maxLocals)) tq := by
      refine fun tq kq => pre98 tq ?_
      show Steps p.tables e below (T97.setTop (mkF m 145 #[.val (.int p1), .val (.int p2), .val (.int p3), .val (.int p4), .val (.int v2), .val (.int v4), .val (.int v6), .val (.int v8), .val (.int v10), .val (.int (1 : Int32)), .val (.int v14), .val (.ref b16), .unset, .unset] [])) _
      refine XS.aload X97.here hx rfl (hb hby at_145) rfl rfl ?_
      show Steps p.tables e below (T97.setTop (mkF m 147 #[.val (.int p1), .val (.int p2), .val (.int p3), .val (.int p4), .val (.int v2), .val (.int v4), .val (.int v6), .val (.int v8), .val (.int v10), .val (.int (1 : Int32)), .val (.int v14), .val (.ref b16), .unset, .unset] [(.ref b16)])) _
      refine XS.iload X97.here hx rfl (hb hby at_147) rfl ?_
      show Steps p.tables e below (T97.setTop (mkF m 149 #[.val (.int p1), .val (.int p2), .val (.int p3), .val (.int p4), .val (.int v2), .val (.int v4), .val (.int v6), .val (.int v8), .val (.int v10), .val (.int (1 : Int32)), .val (.int v14), .val (.ref b16), .unset, .unset] [(.int (1 : Int32)), (.ref b16)])) _
      refine XS.iconst X97.here hx rfl (hb hby at_149) ?_
      show Steps p.tables e below (T97.setTop (mkF m 150 #[.val (.int p1), .val (.int p2), .val (.int p3), .val (.int p4), .val (.int v2), .val (.int v4), .val (.int v6), .val (.int v8), .val (.int v10), .val (.int (1 : Int32)), .val (.int v14), .val (.ref b16), .unset, .unset] [(.int (4 : Int32)), (.int (1 : Int32)), (.ref b16)])) _
      refine XS.iadd X97.here hx rfl (hb hby at_150) rfl ?_
      show Steps p.tables e below (T97.setTop (mkF m 151 #[.val (.int p1), .val (.int p2), .val (.int p3), .val (.int p4), .val (.int v2), .val (.int v4), .val (.int v6), .val (.int v8), .val (.int v10), .val (.int (1 : Int32)), .val (.int v14), .val (.ref b16), .unset, .unset] [(.int (5 : Int32)), (.ref b16)])) _
      refine XS.iload X97.here hx rfl (hb hby at_151) rfl ?_
      show Steps p.tables e below (T97.setTop (mkF m 153 #[.val (.int p1), .val (.int p2), .val (.int p3), .val (.int p4), .val (.int v2), .val (.int v4), .val (.int v6), .val (.int v8), .val (.int v10), .val (.int (1 : Int32)), .val (.int v14), .val (.ref b16), .unset, .unset] [(.int v10), (.int (5 : Int32)), (.ref b16)])) _
      refine XS.i2b X97.here hx rfl (hb hby at_153) rfl ?_
      exact kq
    have Vc101 := f99
    obtain ⟨cl101, Ar101, Aq101, As101, An101, Ah101, Ag101⟩ := Vc101
    have hin101 : ¬ ((5 : Int32) < 0 ∨ cl101.slots.size ≤ ((5 : Int32)).toNatClampNeg) := inb_of As101 ⟨by decide, by decide⟩
    obtain ⟨T101, h101, X101, e101, W101, st101⟩ := stB X97 hx hZ e97 Ar101 (j := (5 : Int32)) hin101 (g := (mkF m 154 #[.val (.int p1), .val (.int p2), .val (.int p3), .val (.int p4), .val (.int v2), .val (.int v4), .val (.int v6), .val (.int v8), .val (.int v10), .val (.int (1 : Int32)), .val (.int v14), .val (.ref b16), .unset, .unset] [(.int (v10.toInt8.toInt32)), (.int (5 : Int32)), (.ref b16)])) rfl rfl (hb hby at_154)
    have pre102 : ∀ tq, Steps p.tables e below (T101.setTop (mkF m 155 #[.val (.int p1), .val (.int p2), .val (.int p3), .val (.int p4), .val (.int v2), .val (.int v4), .val (.int v6), .val (.int v8), .val (.int v10), .val (.int (1 : Int32)), .val (.int v14), .val (.ref b16), .unset, .unset] [])) tq → Steps p.tables e below (s₁.setTop (entryFrame m #[(.int p1), (.int p2), (.int p3), (.int p4)] maxLocals)) tq := fun tq kq => pre100 tq (st101 _ kq)
    have N101 := Fr.snoc X101 N97 g_b16
    have K101 : Keep h0 h101 [] := Keep.wr K97 W101 (Or.inr sz_b16)
    have f103 : Arv Z h101 b16 k16 .byte (8 : Int32) [(.int (nar .byte v14)), (.int (nar .byte (v2.toInt8.toInt32))), (.int (nar .byte (v4.toInt8.toInt32))), (.int (nar .byte (v6.toInt8.toInt32))), (.int (nar .byte (v8.toInt8.toInt32))), (.int (nar .byte (v10.toInt8.toInt32))), (.int (nar .byte v14)), (.int (nar .byte v14))] (.int (0 : Int32)) := Arv.set Ar101 Aq101 As101 An101 Ah101 Ag101 (fits_nar_byte _) W101 5 rfl (Nat.le_of_ble_eq_true rfl)
    obtain ⟨v104, hj105, pre105⟩ : ∃ v104 : Int32, (((223 : Int32) < v2 ∧ (239 : Int32) < v2 ∧ v104 = (4 : Int32)) ∨ ((223 : Int32) < v2 ∧ ¬ ((239 : Int32) < v2) ∧ v104 = (3 : Int32)) ∨ (¬ ((223 : Int32) < v2) ∧ v104 = (2 : Int32))) ∧ (∀ tq, Steps p.tables e below (T101.setTop (mkF m 180 #[.val (.int p1), .val (.int p2), .val (.int p3), .val (.int p4), .val (.int v2), .val (.int v4), .val (.int v6), .val (.int v8), .val (.int v10), .val (.int (1 : Int32)), .val (.int v14), .val (.ref b16), .unset, .unset] [(.int v104)])) tq → Steps p.tables e below (s₁.setTop (entryFrame m #[(.int p1), (.int p2), (.int p3), (.int p4)] maxLocals)) tq) := by
      by_cases hb0_160 : (223 : Int32) < v2
      · skip
        by_cases hb1_172 : (239 : Int32) < v2
        · skip
          refine ⟨(4 : Int32), Or.inl (⟨hb0_160, hb1_172, rfl⟩), fun tq kq => pre102 tq ?_⟩
          show Steps p.tables e below (T101.setTop (mkF m 155 #[.val (.int p1), .val (.int p2), .val (.int p3), .val (.int p4), .val (.int v2), .val (.int v4), .val (.int v6), .val (.int v8), .val (.int v10), .val (.int (1 : Int32)), .val (.int v14), .val (.ref b16), .unset, .unset] [])) _
          refine XS.iload X101.here hx rfl (hb hby at_155) rfl ?_
          show Steps p.tables e below (T101.setTop (mkF m 157 #[.val (.int p1), .val (.int p2), .val (.int p3), .val (.int p4), .val (.int v2), .val (.int v4), .val (.int v6), .val (.int v8), .val (.int v10), .val (.int (1 : Int32)), .val (.int v14), .val (.ref b16), .unset, .unset] [(.int v2)])) _
          refine XS.sipush X101.here hx rfl (hb hby at_157) ?_
          show Steps p.tables e below (T101.setTop (mkF m 160 #[.val (.int p1), .val (.int p2), .val (.int p3), .val (.int p4), .val (.int v2), .val (.int v4), .val (.int v6), .val (.int v8), .val (.int v10), .val (.int (1 : Int32)), .val (.int v14), .val (.ref b16), .unset, .unset] [(.int (223 : Int32)), (.int v2)])) _
          refine XS.icmpYes X101.here hx rfl (pc0 := 160) (pc' := 167) rfl (hb hby at_160) rfl (tlt hb0_160).2.2.1 (by decide) (by decide) ?_
          show Steps p.tables e below (T101.setTop (mkF m 167 #[.val (.int p1), .val (.int p2), .val (.int p3), .val (.int p4), .val (.int v2), .val (.int v4), .val (.int v6), .val (.int v8), .val (.int v10), .val (.int (1 : Int32)), .val (.int v14), .val (.ref b16), .unset, .unset] [])) _
          refine XS.iload X101.here hx rfl (hb hby at_167) rfl ?_
          show Steps p.tables e below (T101.setTop (mkF m 169 #[.val (.int p1), .val (.int p2), .val (.int p3), .val (.int p4), .val (.int v2), .val (.int v4), .val (.int v6), .val (.int v8), .val (.int v10), .val (.int (1 : Int32)), .val (.int v14), .val (.ref b16), .unset, .unset] [(.int v2)])) _
          refine XS.sipush X101.here hx rfl (hb hby at_169) ?_
          show Steps p.tables e below (T101.setTop (mkF m 172 #[.val (.int p1), .val (.int p2), .val (.int p3), .val (.int p4), .val (.int v2), .val (.int v4), .val (.int v6), .val (.int v8), .val (.int v10), .val (.int (1 : Int32)), .val (.int v14), .val (.ref b16), .unset, .unset] [(.int (239 : Int32)), (.int v2)])) _
          refine XS.icmpYes X101.here hx rfl (pc0 := 172) (pc' := 179) rfl (hb hby at_172) rfl (tlt hb1_172).2.2.1 (by decide) (by decide) ?_
          show Steps p.tables e below (T101.setTop (mkF m 179 #[.val (.int p1), .val (.int p2), .val (.int p3), .val (.int p4), .val (.int v2), .val (.int v4), .val (.int v6), .val (.int v8), .val (.int v10), .val (.int (1 : Int32)), .val (.int v14), .val (.ref b16), .unset, .unset] [])) _
          refine XS.iconst X101.here hx rfl (hb hby at_179) ?_
          exact kq
        · skip
          refine ⟨(3 : Int32), Or.inr (Or.inl (⟨hb0_160, hb1_172, rfl⟩)), fun tq kq => pre102 tq ?_⟩
          show Steps p.tables e below (T101.setTop (mkF m 155 #[.val (.int p1), .val (.int p2), .val (.int p3), .val (.int p4), .val (.int v2), .val (.int v4), .val (.int v6), .val (.int v8), .val (.int v10), .val (.int (1 : Int32)), .val (.int v14), .val (.ref b16), .unset, .unset] [])) _
          refine XS.iload X101.here hx rfl (hb hby at_155) rfl ?_
          show Steps p.tables e below (T101.setTop (mkF m 157 #[.val (.int p1), .val (.int p2), .val (.int p3), .val (.int p4), .val (.int v2), .val (.int v4), .val (.int v6), .val (.int v8), .val (.int v10), .val (.int (1 : Int32)), .val (.int v14), .val (.ref b16), .unset, .unset] [(.int v2)])) _
          refine XS.sipush X101.here hx rfl (hb hby at_157) ?_
          show Steps p.tables e below (T101.setTop (mkF m 160 #[.val (.int p1), .val (.int p2), .val (.int p3), .val (.int p4), .val (.int v2), .val (.int v4), .val (.int v6), .val (.int v8), .val (.int v10), .val (.int (1 : Int32)), .val (.int v14), .val (.ref b16), .unset, .unset] [(.int (223 : Int32)), (.int v2)])) _
          refine XS.icmpYes X101.here hx rfl (pc0 := 160) (pc' := 167) rfl (hb hby at_160) rfl (tlt hb0_160).2.2.1 (by decide) (by decide) ?_
          show Steps p.tables e below (T101.setTop (mkF m 167 #[.val (.int p1), .val (.int p2), .val (.int p3), .val (.int p4), .val (.int v2), .val (.int v4), .val (.int v6), .val (.int v8), .val (.int v10), .val (.int (1 : Int32)), .val (.int v14), .val (.ref b16), .unset, .unset] [])) _
          refine XS.iload X101.here hx rfl (hb hby at_167) rfl ?_
          show Steps p.tables e below (T101.setTop (mkF m 169 #[.val (.int p1), .val (.int p2), .val (.int p3), .val (.int p4), .val (.int v2), .val (.int v4), .val (.int v6), .val (.int v8), .val (.int v10), .val (.int (1 : Int32)), .val (.int v14), .val (.ref b16), .unset, .unset] [(.int v2)])) _
          refine XS.sipush X101.here hx rfl (hb hby at_169) ?_
          show Steps p.tables e below (T101.setTop (mkF m 172 #[.val (.int p1), .val (.int p2), .val (.int p3), .val (.int p4), .val (.int v2), .val (.int v4), .val (.int v6), .val (.int v8), .val (.int v10), .val (.int (1 : Int32)), .val (.int v14), .val (.ref b16), .unset, .unset] [(.int (239 : Int32)), (.int v2)])) _
          refine XS.icmpNo X101.here hx rfl (hb hby at_172) rfl (flt hb1_172).2.2.1 ?_
          show Steps p.tables e below (T101.setTop (mkF m 175 #[.val (.int p1), .val (.int p2), .val (.int p3), .val (.int p4), .val (.int v2), .val (.int v4), .val (.int v6), .val (.int v8), .val (.int v10), .val (.int (1 : Int32)), .val (.int v14), .val (.ref b16), .unset, .unset] [])) _
          refine XS.iconst X101.here hx rfl (hb hby at_175) ?_
          show Steps p.tables e below (T101.setTop (mkF m 176 #[.val (.int p1), .val (.int p2), .val (.int p3), .val (.int p4), .val (.int v2), .val (.int v4), .val (.int v6), .val (.int v8), .val (.int v10), .val (.int (1 : Int32)), .val (.int v14), .val (.ref b16), .unset, .unset] [(.int (3 : Int32))])) _
          refine XS.goto X101.here hx rfl (pc0 := 176) (pc' := 180) rfl (hb hby at_176) (by decide) (by decide) ?_
          exact kq
      · skip
        refine ⟨(2 : Int32), Or.inr (Or.inr (⟨hb0_160, rfl⟩)), fun tq kq => pre102 tq ?_⟩
        show Steps p.tables e below (T101.setTop (mkF m 155 #[.val (.int p1), .val (.int p2), .val (.int p3), .val (.int p4), .val (.int v2), .val (.int v4), .val (.int v6), .val (.int v8), .val (.int v10), .val (.int (1 : Int32)), .val (.int v14), .val (.ref b16), .unset, .unset] [])) _
        refine XS.iload X101.here hx rfl (hb hby at_155) rfl ?_
        show Steps p.tables e below (T101.setTop (mkF m 157 #[.val (.int p1), .val (.int p2), .val (.int p3), .val (.int p4), .val (.int v2), .val (.int v4), .val (.int v6), .val (.int v8), .val (.int v10), .val (.int (1 : Int32)), .val (.int v14), .val (.ref b16), .unset, .unset] [(.int v2)])) _
        refine XS.sipush X101.here hx rfl (hb hby at_157) ?_
        show Steps p.tables e below (T101.setTop (mkF m 160 #[.val (.int p1), .val (.int p2), .val (.int p3), .val (.int p4), .val (.int v2), .val (.int v4), .val (.int v6), .val (.int v8), .val (.int v10), .val (.int (1 : Int32)), .val (.int v14), .val (.ref b16), .unset, .unset] [(.int (223 : Int32)), (.int v2)])) _
        refine XS.icmpNo X101.here hx rfl (hb hby at_160) rfl (flt hb0_160).2.2.1 ?_
        show Steps p.tables e below (T101.setTop (mkF m 163 #[.val (.int p1), .val (.int p2), .val (.int p3), .val (.int p4), .val (.int v2), .val (.int v4), .val (.int v6), .val (.int v8), .val (.int v10), .val (.int (1 : Int32)), .val (.int v14), .val (.ref b16), .unset, .unset] [])) _
        refine XS.iconst X101.here hx rfl (hb hby at_163) ?_
        show Steps p.tables e below (T101.setTop (mkF m 164 #[.val (.int p1), .val (.int p2), .val (.int p3), .val (.int p4), .val (.int v2), .val (.int v4), .val (.int v6), .val (.int v8), .val (.int v10), .val (.int (1 : Int32)), .val (.int v14), .val (.ref b16), .unset, .unset] [(.int (2 : Int32))])) _
        refine XS.goto X101.here hx rfl (pc0 := 164) (pc' := 180) rfl (hb hby at_164) (by decide) (by decide) ?_
        exact kq
    have pre106 : ∀ tq, Steps p.tables e below (T101.setTop (mkF m 192 #[.val (.int p1), .val (.int p2), .val (.int p3), .val (.int p4), .val (.int v2), .val (.int v4), .val (.int v6), .val (.int v8), .val (.int v10), .val (.int (1 : Int32)), .val (.int v14), .val (.ref b16), .val (.int v104), .unset] [(.int v8), (.int v6), (.int v4), (.int v104), (.int v2)])) tq → Steps p.tables e below (s₁.setTop (entryFrame m #[(.int p1), (.int p2), (.int p3), (.int p4)] maxLocals)) tq := by
      refine fun tq kq => pre105 tq ?_
      show Steps p.tables e below (T101.setTop (mkF m 180 #[.val (.int p1), .val (.int p2), .val (.int p3), .val (.int p4), .val (.int v2), .val (.int v4), .val (.int v6), .val (.int v8), .val (.int v10), .val (.int (1 : Int32)), .val (.int v14), .val (.ref b16), .unset, .unset] [(.int v104)])) _
      refine XS.istore X101.here hx rfl (hb hby at_180) rfl (l' := #[.val (.int p1), .val (.int p2), .val (.int p3), .val (.int p4), .val (.int v2), .val (.int v4), .val (.int v6), .val (.int v8), .val (.int v10), .val (.int (1 : Int32)), .val (.int v14), .val (.ref b16), .val (.int v104), .unset]) rfl ?_
      show Steps p.tables e below (T101.setTop (mkF m 182 #[.val (.int p1), .val (.int p2), .val (.int p3), .val (.int p4), .val (.int v2), .val (.int v4), .val (.int v6), .val (.int v8), .val (.int v10), .val (.int (1 : Int32)), .val (.int v14), .val (.ref b16), .val (.int v104), .unset] [])) _
      refine XS.iload X101.here hx rfl (hb hby at_182) rfl ?_
      show Steps p.tables e below (T101.setTop (mkF m 184 #[.val (.int p1), .val (.int p2), .val (.int p3), .val (.int p4), .val (.int v2), .val (.int v4), .val (.int v6), .val (.int v8), .val (.int v10), .val (.int (1 : Int32)), .val (.int v14), .val (.ref b16), .val (.int v104), .unset] [(.int v2)])) _
      refine XS.iload X101.here hx rfl (hb hby at_184) rfl ?_
      show Steps p.tables e below (T101.setTop (mkF m 186 #[.val (.int p1), .val (.int p2), .val (.int p3), .val (.int p4), .val (.int v2), .val (.int v4), .val (.int v6), .val (.int v8), .val (.int v10), .val (.int (1 : Int32)), .val (.int v14), .val (.ref b16), .val (.int v104), .unset] [(.int v104), (.int v2)])) _
      refine XS.iload X101.here hx rfl (hb hby at_186) rfl ?_
      show Steps p.tables e below (T101.setTop (mkF m 188 #[.val (.int p1), .val (.int p2), .val (.int p3), .val (.int p4), .val (.int v2), .val (.int v4), .val (.int v6), .val (.int v8), .val (.int v10), .val (.int (1 : Int32)), .val (.int v14), .val (.ref b16), .val (.int v104), .unset] [(.int v4), (.int v104), (.int v2)])) _
      refine XS.iload X101.here hx rfl (hb hby at_188) rfl ?_
      show Steps p.tables e below (T101.setTop (mkF m 190 #[.val (.int p1), .val (.int p2), .val (.int p3), .val (.int p4), .val (.int v2), .val (.int v4), .val (.int v6), .val (.int v8), .val (.int v10), .val (.int (1 : Int32)), .val (.int v14), .val (.ref b16), .val (.int v104), .unset] [(.int v6), (.int v4), (.int v104), (.int v2)])) _
      refine XS.iload X101.here hx rfl (hb hby at_190) rfl ?_
      exact kq
    have Z107 : n0 ≤ h101.size := (Nat.le_trans (Nat.le_trans (Nat.le_trans (Nat.le_trans (Nat.le_trans (Nat.le_trans (Nat.le_trans (Nat.le_trans (Nat.le_trans (Nat.le_trans (Nat.le_trans (Nat.le_trans (Nat.le_trans (Nat.le_trans Z0 E16.1) (Keep.of_wr W20).1) (Keep.of_wr W24).1) (Keep.of_wr W28).1) (Keep.of_wr W32).1) (Keep.of_wr W36).1) (Keep.of_wr W40).1) (Keep.of_wr W44).1) (Keep.of_wr W48).1) (Keep.of_wr W85).1) (Keep.of_wr W89).1) (Keep.of_wr W93).1) (Keep.of_wr W97).1) (Keep.of_wr W101).1)
    obtain ⟨_, _, ⟨T107, L107, k107, n107⟩, -, X107, ⟨Lc107, hQ107, l107, y107, z107⟩, st107⟩ := Jvm.LawKit.callS X101 hx (y := (⟨"com/example/partwise/partwise/storage/Utf8ContinuesSequencePinLaw", "expected", "(IIIII)Z"⟩ : MethodName)) hown (mvT hZ (hw _ (List.mem_of_getElem? (i := 2) rfl))) (mvT hZ (hw _ (List.mem_of_getElem? (i := 3) rfl))) (mvT hZ (hw _ (List.mem_of_getElem? (i := 4) rfl))) (mvT hZ (hw _ (List.mem_of_getElem? (i := 5) rfl))) (by decide) (backOf (W := 0) (rm1 l Z a0 hw [] v2 v104 v4 v6 v8  h101 n0 Z107 (by simp only [Int32.lt_iff_toInt_lt, ← Int32.toInt_inj, Int32.reduceToInt] at hj105 ⊢; omega) (⟨hb5, hb6, hb7⟩)) hZ (hw _ (List.mem_of_getElem? (i := 5) rfl)) (hw _ (List.mem_of_getElem? (i := 4) rfl)) (by decide) (by decide)) (g := (mkF m 192 #[.val (.int p1), .val (.int p2), .val (.int p3), .val (.int p4), .val (.int v2), .val (.int v4), .val (.int v6), .val (.int v8), .val (.int v10), .val (.int (1 : Int32)), .val (.int v14), .val (.ref b16), .val (.int v104), .unset] [(.int v8), (.int v6), (.int v4), (.int v104), (.int v2)])) rfl (by rw [hml]; rfl) (argsL := [(.int v2), (.int v104), (.int v4), (.int v6), (.int v8)]) (rest := []) (lenOf pd0_0 rfl) rfl (by show 2 * 0 + _ ≤ _; exact Nat.le_of_eq rfl) (hb hby at_192) (fun _ _ => ⟨rfl, e101, (by decide : (0 + 1) + 0 ≤ _), (by decide : (0 + 8) + 0 ≤ _)⟩)
    dsimp only [Pt.U, Pt.locs, Pt.cells, Pt.slots] at X107 l107 y107 z107 st107 hQ107
    subst l107 y107 z107
    obtain ⟨r108, rfl, Nq107, ehq107, hq107⟩ := hQ107
    have N107 := Fr.app N101 Nq107
    have pre109 : ∀ tq, Steps p.tables e below (T107.setTop (mkF m 195 #[.val (.int p1), .val (.int p2), .val (.int p3), .val (.int p4), .val (.int v2), .val (.int v4), .val (.int v6), .val (.int v8), .val (.int v10), .val (.int (1 : Int32)), .val (.int v14), .val (.ref b16), .val (.int v104), .unset] [(.int r108)])) tq → Steps p.tables e below (s₁.setTop (entryFrame m #[(.int p1), (.int p2), (.int p3), (.int p4)] maxLocals)) tq := fun tq kq => pre106 tq (st107 _ kq)
    have pre110 : ∀ tq, Steps p.tables e below (T107.setTop (mkF m 203 #[.val (.int p1), .val (.int p2), .val (.int p3), .val (.int p4), .val (.int v2), .val (.int v4), .val (.int v6), .val (.int v8), .val (.int v10), .val (.int (1 : Int32)), .val (.int v14), .val (.ref b16), .val (.int v104), .val (.int r108)] [(.int v104), (.int (1 : Int32)), (.ref b16)])) tq → Steps p.tables e below (s₁.setTop (entryFrame m #[(.int p1), (.int p2), (.int p3), (.int p4)] maxLocals)) tq := by
      refine fun tq kq => pre109 tq ?_
      show Steps p.tables e below (T107.setTop (mkF m 195 #[.val (.int p1), .val (.int p2), .val (.int p3), .val (.int p4), .val (.int v2), .val (.int v4), .val (.int v6), .val (.int v8), .val (.int v10), .val (.int (1 : Int32)), .val (.int v14), .val (.ref b16), .val (.int v104), .unset] [(.int r108)])) _
      refine XS.istore X107.here hx rfl (hb hby at_195) rfl (l' := #[.val (.int p1), .val (.int p2), .val (.int p3), .val (.int p4), .val (.int v2), .val (.int v4), .val (.int v6), .val (.int v8), .val (.int v10), .val (.int (1 : Int32)), .val (.int v14), .val (.ref b16), .val (.int v104), .val (.int r108)]) rfl ?_
      show Steps p.tables e below (T107.setTop (mkF m 197 #[.val (.int p1), .val (.int p2), .val (.int p3), .val (.int p4), .val (.int v2), .val (.int v4), .val (.int v6), .val (.int v8), .val (.int v10), .val (.int (1 : Int32)), .val (.int v14), .val (.ref b16), .val (.int v104), .val (.int r108)] [])) _
      refine XS.aload X107.here hx rfl (hb hby at_197) rfl rfl ?_
      show Steps p.tables e below (T107.setTop (mkF m 199 #[.val (.int p1), .val (.int p2), .val (.int p3), .val (.int p4), .val (.int v2), .val (.int v4), .val (.int v6), .val (.int v8), .val (.int v10), .val (.int (1 : Int32)), .val (.int v14), .val (.ref b16), .val (.int v104), .val (.int r108)] [(.ref b16)])) _
      refine XS.iload X107.here hx rfl (hb hby at_199) rfl ?_
      show Steps p.tables e below (T107.setTop (mkF m 201 #[.val (.int p1), .val (.int p2), .val (.int p3), .val (.int p4), .val (.int v2), .val (.int v4), .val (.int v6), .val (.int v8), .val (.int v10), .val (.int (1 : Int32)), .val (.int v14), .val (.ref b16), .val (.int v104), .val (.int r108)] [(.int (1 : Int32)), (.ref b16)])) _
      refine XS.iload X107.here hx rfl (hb hby at_201) rfl ?_
      exact kq
    have Z111 : n0 ≤ h101.size := (Nat.le_trans (Nat.le_trans (Nat.le_trans (Nat.le_trans (Nat.le_trans (Nat.le_trans (Nat.le_trans (Nat.le_trans (Nat.le_trans (Nat.le_trans (Nat.le_trans (Nat.le_trans (Nat.le_trans (Nat.le_trans Z0 E16.1) (Keep.of_wr W20).1) (Keep.of_wr W24).1) (Keep.of_wr W28).1) (Keep.of_wr W32).1) (Keep.of_wr W36).1) (Keep.of_wr W40).1) (Keep.of_wr W44).1) (Keep.of_wr W48).1) (Keep.of_wr W85).1) (Keep.of_wr W89).1) (Keep.of_wr W93).1) (Keep.of_wr W97).1) (Keep.of_wr W101).1)
    obtain ⟨_, _, ⟨T111, L111, k111, n111⟩, -, X111, ⟨Lc111, hQ111, l111, y111, z111⟩, st111⟩ := Jvm.LawKit.callS X107 hx (y := (⟨"com/example/partwise/partwise/storage/Utf8", "continuesSequence", "([BII)Z"⟩ : MethodName)) hown (mvT hZ (hw _ (List.mem_of_getElem? (i := 9) rfl))) (mvT hZ (hw _ (List.mem_of_getElem? (i := 10) rfl))) (mvT hZ (hw _ (List.mem_of_getElem? (i := 11) rfl))) (mvT hZ (hw _ (List.mem_of_getElem? (i := 12) rfl))) (by decide) (backOf (W := 0) (rm3 l Z a0 hw [] b16 (1 : Int32) v104 k16 [(.int (nar .byte v14)), (.int (nar .byte (v2.toInt8.toInt32))), (.int (nar .byte (v4.toInt8.toInt32))), (.int (nar .byte (v6.toInt8.toInt32))), (.int (nar .byte (v8.toInt8.toInt32))), (.int (nar .byte (v10.toInt8.toInt32))), (.int (nar .byte v14)), (.int (nar .byte v14))] (.int (0 : Int32)) (nar .byte (v2.toInt8.toInt32)) (nar .byte (v4.toInt8.toInt32)) (nar .byte (v6.toInt8.toInt32)) (nar .byte (v8.toInt8.toInt32)) h101 n0 Z111 f103 (by decide) (by simp only [Int32.lt_iff_toInt_lt, ← Int32.toInt_inj, Int32.reduceToInt] at hj105 ⊢; omega) (rfl) (rfl) (rfl) (rfl)) hZ (hw _ (List.mem_of_getElem? (i := 12) rfl)) (hw _ (List.mem_of_getElem? (i := 11) rfl)) (by decide) (by decide)) (g := (mkF m 203 #[.val (.int p1), .val (.int p2), .val (.int p3), .val (.int p4), .val (.int v2), .val (.int v4), .val (.int v6), .val (.int v8), .val (.int v10), .val (.int (1 : Int32)), .val (.int v14), .val (.ref b16), .val (.int v104), .val (.int r108)] [(.int v104), (.int (1 : Int32)), (.ref b16)])) rfl (by rw [hml]; rfl) (argsL := [(.ref b16), (.int (1 : Int32)), (.int v104)]) (rest := []) (lenOf pd0_1 rfl) rfl (by show 2 * 0 + _ ≤ _; exact Nat.le_of_eq rfl) (hb hby at_203) (fun _ _ => ⟨rfl, ehq107, (by decide : ((0 + 1) + 0) + 0 ≤ _), (by decide : ((0 + 8) + 0) + 0 ≤ _)⟩)
    dsimp only [Pt.U, Pt.locs, Pt.cells, Pt.slots] at X111 l111 y111 z111 st111 hQ111
    subst l111 y111 z111
    obtain ⟨r112, rfl, Nq111, ehq111, hq111⟩ := hQ111
    have N111 := Fr.app N107 Nq111
    have pre113 : ∀ tq, Steps p.tables e below (T111.setTop (mkF m 206 #[.val (.int p1), .val (.int p2), .val (.int p3), .val (.int p4), .val (.int v2), .val (.int v4), .val (.int v6), .val (.int v8), .val (.int v10), .val (.int (1 : Int32)), .val (.int v14), .val (.ref b16), .val (.int v104), .val (.int r108)] [(.int r112)])) tq → Steps p.tables e below (s₁.setTop (entryFrame m #[(.int p1), (.int p2), (.int p3), (.int p4)] maxLocals)) tq := fun tq kq => pre110 tq (st111 _ kq)
    obtain ⟨v114, hj115, pre115⟩ : ∃ v114 : Int32, ((r112 = r108 ∧ v114 = (1 : Int32)) ∨ (¬ (r112 = r108) ∧ v114 = (0 : Int32))) ∧ (∀ tq, Steps p.tables e below (T111.setTop (mkF m 216 #[.val (.int p1), .val (.int p2), .val (.int p3), .val (.int p4), .val (.int v2), .val (.int v4), .val (.int v6), .val (.int v8), .val (.int v10), .val (.int (1 : Int32)), .val (.int v14), .val (.ref b16), .val (.int v104), .val (.int r108)] [(.int v114)])) tq → Steps p.tables e below (s₁.setTop (entryFrame m #[(.int p1), (.int p2), (.int p3), (.int p4)] maxLocals)) tq) := by
      by_cases hb0_208 : r112 = r108
      · skip
        refine ⟨(1 : Int32), Or.inl (⟨hb0_208, rfl⟩), fun tq kq => pre113 tq ?_⟩
        show Steps p.tables e below (T111.setTop (mkF m 206 #[.val (.int p1), .val (.int p2), .val (.int p3), .val (.int p4), .val (.int v2), .val (.int v4), .val (.int v6), .val (.int v8), .val (.int v10), .val (.int (1 : Int32)), .val (.int v14), .val (.ref b16), .val (.int v104), .val (.int r108)] [(.int r112)])) _
        refine XS.iload X111.here hx rfl (hb hby at_206) rfl ?_
        show Steps p.tables e below (T111.setTop (mkF m 208 #[.val (.int p1), .val (.int p2), .val (.int p3), .val (.int p4), .val (.int v2), .val (.int v4), .val (.int v6), .val (.int v8), .val (.int v10), .val (.int (1 : Int32)), .val (.int v14), .val (.ref b16), .val (.int v104), .val (.int r108)] [(.int r108), (.int r112)])) _
        refine XS.icmpNo X111.here hx rfl (hb hby at_208) rfl (teq hb0_208).2 ?_
        show Steps p.tables e below (T111.setTop (mkF m 211 #[.val (.int p1), .val (.int p2), .val (.int p3), .val (.int p4), .val (.int v2), .val (.int v4), .val (.int v6), .val (.int v8), .val (.int v10), .val (.int (1 : Int32)), .val (.int v14), .val (.ref b16), .val (.int v104), .val (.int r108)] [])) _
        refine XS.iconst X111.here hx rfl (hb hby at_211) ?_
        show Steps p.tables e below (T111.setTop (mkF m 212 #[.val (.int p1), .val (.int p2), .val (.int p3), .val (.int p4), .val (.int v2), .val (.int v4), .val (.int v6), .val (.int v8), .val (.int v10), .val (.int (1 : Int32)), .val (.int v14), .val (.ref b16), .val (.int v104), .val (.int r108)] [(.int (1 : Int32))])) _
        refine XS.goto X111.here hx rfl (pc0 := 212) (pc' := 216) rfl (hb hby at_212) (by decide) (by decide) ?_
        exact kq
      · skip
        refine ⟨(0 : Int32), Or.inr (⟨hb0_208, rfl⟩), fun tq kq => pre113 tq ?_⟩
        show Steps p.tables e below (T111.setTop (mkF m 206 #[.val (.int p1), .val (.int p2), .val (.int p3), .val (.int p4), .val (.int v2), .val (.int v4), .val (.int v6), .val (.int v8), .val (.int v10), .val (.int (1 : Int32)), .val (.int v14), .val (.ref b16), .val (.int v104), .val (.int r108)] [(.int r112)])) _
        refine XS.iload X111.here hx rfl (hb hby at_206) rfl ?_
        show Steps p.tables e below (T111.setTop (mkF m 208 #[.val (.int p1), .val (.int p2), .val (.int p3), .val (.int p4), .val (.int v2), .val (.int v4), .val (.int v6), .val (.int v8), .val (.int v10), .val (.int (1 : Int32)), .val (.int v14), .val (.ref b16), .val (.int v104), .val (.int r108)] [(.int r108), (.int r112)])) _
        refine XS.icmpYes X111.here hx rfl (pc0 := 208) (pc' := 215) rfl (hb hby at_208) rfl (feq hb0_208).2 (by decide) (by decide) ?_
        show Steps p.tables e below (T111.setTop (mkF m 215 #[.val (.int p1), .val (.int p2), .val (.int p3), .val (.int p4), .val (.int v2), .val (.int v4), .val (.int v6), .val (.int v8), .val (.int v10), .val (.int (1 : Int32)), .val (.int v14), .val (.ref b16), .val (.int v104), .val (.int r108)] [])) _
        refine XS.iconst X111.here hx rfl (hb hby at_215) ?_
        exact kq
    have hfin : v114 = 1 := by
      have yb4 := own_byte v2 (by omega) (by omega)
      have yb5 := own_byte v4 (by omega) (by omega)
      have yb6 := own_byte v6 (by omega) (by omega)
      have yb7 := own_byte v8 (by omega) (by omega)
      rw [yb4, yb5, yb6, yb7] at hq111
      simp only [Int32.lt_iff_toInt_lt, ← Int32.toInt_inj, Int32.reduceToInt, true_and, and_true, false_and, and_false, or_false, false_or, not_true_eq_false, not_false_eq_true, true_implies, false_implies] at hq107 hq111 hj105 hj115 ⊢ <;> omega
    subst hfin
    obtain ⟨fs, hr, hrun, hended, hW, hsame⟩ := X111.leave (v := some (.int (1 : Int32))) (fun h => by rw [Bd.returns] at h; cases h)
    refine ⟨_, _, pre115 _ ?_, hrun, hended, _, _, rfl, ?_, ⟨_, rfl⟩, hW, hsame.mono (by decide) (by decide)⟩
    · skip
      show Steps p.tables e below (T111.setTop (mkF m 216 #[.val (.int p1), .val (.int p2), .val (.int p3), .val (.int p4), .val (.int v2), .val (.int v4), .val (.int v6), .val (.int v8), .val (.int v10), .val (.int (1 : Int32)), .val (.int v14), .val (.ref b16), .val (.int v104), .val (.int r108)] [(.int (1 : Int32))])) _
      exact retN X111 hx (t := .boolean) Bd.returns (by simp) (hb hby at_216) hr
    · show Q0 Z p1 p2 p3 p4 h0 n0 _ T111.heap _
      rw [ehq111]
      exact ⟨rfl, N111⟩
  · skip
    subst hk
    have pre116 : ∀ tq, Steps p.tables e below (T48.setTop (mkF m 114 #[.val (.int p1), .val (.int p2), .val (.int p3), .val (.int p4), .val (.int v2), .val (.int v4), .val (.int v6), .val (.int v8), .val (.int v10), .val (.int (2 : Int32)), .val (.int v14), .val (.ref b16), .unset, .unset] [(.int (v2.toInt8.toInt32)), (.int (2 : Int32)), (.ref b16)])) tq → Steps p.tables e below (s₁.setTop (entryFrame m #[(.int p1), (.int p2), (.int p3), (.int p4)] maxLocals)) tq := by
      refine fun tq kq => pre51 tq ?_
      show Steps p.tables e below (T48.setTop (mkF m 107 #[.val (.int p1), .val (.int p2), .val (.int p3), .val (.int p4), .val (.int v2), .val (.int v4), .val (.int v6), .val (.int v8), .val (.int v10), .val (.int (2 : Int32)), .val (.int v14), .val (.ref b16), .unset, .unset] [])) _
      refine XS.aload X48.here hx rfl (hb hby at_107) rfl rfl ?_
      show Steps p.tables e below (T48.setTop (mkF m 109 #[.val (.int p1), .val (.int p2), .val (.int p3), .val (.int p4), .val (.int v2), .val (.int v4), .val (.int v6), .val (.int v8), .val (.int v10), .val (.int (2 : Int32)), .val (.int v14), .val (.ref b16), .unset, .unset] [(.ref b16)])) _
      refine XS.iload X48.here hx rfl (hb hby at_109) rfl ?_
      show Steps p.tables e below (T48.setTop (mkF m 111 #[.val (.int p1), .val (.int p2), .val (.int p3), .val (.int p4), .val (.int v2), .val (.int v4), .val (.int v6), .val (.int v8), .val (.int v10), .val (.int (2 : Int32)), .val (.int v14), .val (.ref b16), .unset, .unset] [(.int (2 : Int32)), (.ref b16)])) _
      refine XS.iload X48.here hx rfl (hb hby at_111) rfl ?_
      show Steps p.tables e below (T48.setTop (mkF m 113 #[.val (.int p1), .val (.int p2), .val (.int p3), .val (.int p4), .val (.int v2), .val (.int v4), .val (.int v6), .val (.int v8), .val (.int v10), .val (.int (2 : Int32)), .val (.int v14), .val (.ref b16), .unset, .unset] [(.int v2), (.int (2 : Int32)), (.ref b16)])) _
      refine XS.i2b X48.here hx rfl (hb hby at_113) rfl ?_
      exact kq
    have Vc117 := f50
    obtain ⟨cl117, Ar117, Aq117, As117, An117, Ah117, Ag117⟩ := Vc117
    have hin117 : ¬ ((2 : Int32) < 0 ∨ cl117.slots.size ≤ ((2 : Int32)).toNatClampNeg) := inb_of As117 ⟨by decide, by decide⟩
    obtain ⟨T117, h117, X117, e117, W117, st117⟩ := stB X48 hx hZ e48 Ar117 (j := (2 : Int32)) hin117 (g := (mkF m 114 #[.val (.int p1), .val (.int p2), .val (.int p3), .val (.int p4), .val (.int v2), .val (.int v4), .val (.int v6), .val (.int v8), .val (.int v10), .val (.int (2 : Int32)), .val (.int v14), .val (.ref b16), .unset, .unset] [(.int (v2.toInt8.toInt32)), (.int (2 : Int32)), (.ref b16)])) rfl rfl (hb hby at_114)
    have pre118 : ∀ tq, Steps p.tables e below (T117.setTop (mkF m 115 #[.val (.int p1), .val (.int p2), .val (.int p3), .val (.int p4), .val (.int v2), .val (.int v4), .val (.int v6), .val (.int v8), .val (.int v10), .val (.int (2 : Int32)), .val (.int v14), .val (.ref b16), .unset, .unset] [])) tq → Steps p.tables e below (s₁.setTop (entryFrame m #[(.int p1), (.int p2), (.int p3), (.int p4)] maxLocals)) tq := fun tq kq => pre116 tq (st117 _ kq)
    have N117 := Fr.snoc X117 N48 g_b16
    have K117 : Keep h0 h117 [] := Keep.wr K48 W117 (Or.inr sz_b16)
    have f119 : Arv Z h117 b16 k16 .byte (8 : Int32) [(.int (nar .byte v14)), (.int (nar .byte v14)), (.int (nar .byte (v2.toInt8.toInt32))), (.int (nar .byte v14)), (.int (nar .byte v14)), (.int (nar .byte v14)), (.int (nar .byte v14)), (.int (nar .byte v14))] (.int (0 : Int32)) := Arv.set Ar117 Aq117 As117 An117 Ah117 Ag117 (fits_nar_byte _) W117 2 rfl (Nat.le_of_ble_eq_true rfl)
    have pre120 : ∀ tq, Steps p.tables e below (T117.setTop (mkF m 124 #[.val (.int p1), .val (.int p2), .val (.int p3), .val (.int p4), .val (.int v2), .val (.int v4), .val (.int v6), .val (.int v8), .val (.int v10), .val (.int (2 : Int32)), .val (.int v14), .val (.ref b16), .unset, .unset] [(.int (v4.toInt8.toInt32)), (.int (3 : Int32)), (.ref b16)])) tq → Steps p.tables e below (s₁.setTop (entryFrame m #[(.int p1), (.int p2), (.int p3), (.int p4)] maxLocals)) tq := by
      refine fun tq kq => pre118 tq ?_
      show Steps p.tables e below (T117.setTop (mkF m 115 #[.val (.int p1), .val (.int p2), .val (.int p3), .val (.int p4), .val (.int v2), .val (.int v4), .val (.int v6), .val (.int v8), .val (.int v10), .val (.int (2 : Int32)), .val (.int v14), .val (.ref b16), .unset, .unset] [])) _
      refine XS.aload X117.here hx rfl (hb hby at_115) rfl rfl ?_
      show Steps p.tables e below (T117.setTop (mkF m 117 #[.val (.int p1), .val (.int p2), .val (.int p3), .val (.int p4), .val (.int v2), .val (.int v4), .val (.int v6), .val (.int v8), .val (.int v10), .val (.int (2 : Int32)), .val (.int v14), .val (.ref b16), .unset, .unset] [(.ref b16)])) _
      refine XS.iload X117.here hx rfl (hb hby at_117) rfl ?_
      show Steps p.tables e below (T117.setTop (mkF m 119 #[.val (.int p1), .val (.int p2), .val (.int p3), .val (.int p4), .val (.int v2), .val (.int v4), .val (.int v6), .val (.int v8), .val (.int v10), .val (.int (2 : Int32)), .val (.int v14), .val (.ref b16), .unset, .unset] [(.int (2 : Int32)), (.ref b16)])) _
      refine XS.iconst X117.here hx rfl (hb hby at_119) ?_
      show Steps p.tables e below (T117.setTop (mkF m 120 #[.val (.int p1), .val (.int p2), .val (.int p3), .val (.int p4), .val (.int v2), .val (.int v4), .val (.int v6), .val (.int v8), .val (.int v10), .val (.int (2 : Int32)), .val (.int v14), .val (.ref b16), .unset, .unset] [(.int (1 : Int32)), (.int (2 : Int32)), (.ref b16)])) _
      refine XS.iadd X117.here hx rfl (hb hby at_120) rfl ?_
      show Steps p.tables e below (T117.setTop (mkF m 121 #[.val (.int p1), .val (.int p2), .val (.int p3), .val (.int p4), .val (.int v2), .val (.int v4), .val (.int v6), .val (.int v8), .val (.int v10), .val (.int (2 : Int32)), .val (.int v14), .val (.ref b16), .unset, .unset] [(.int (3 : Int32)), (.ref b16)])) _
      refine XS.iload X117.here hx rfl (hb hby at_121) rfl ?_
      show Steps p.tables e below (T117.setTop (mkF m 123 #[.val (.int p1), .val (.int p2), .val (.int p3), .val (.int p4), .val (.int v2), .val (.int v4), .val (.int v6), .val (.int v8), .val (.int v10), .val (.int (2 : Int32)), .val (.int v14), .val (.ref b16), .unset, .unset] [(.int v4), (.int (3 : Int32)), (.ref b16)])) _
      refine XS.i2b X117.here hx rfl (hb hby at_123) rfl ?_
      exact kq
    have Vc121 := f119
    obtain ⟨cl121, Ar121, Aq121, As121, An121, Ah121, Ag121⟩ := Vc121
    have hin121 : ¬ ((3 : Int32) < 0 ∨ cl121.slots.size ≤ ((3 : Int32)).toNatClampNeg) := inb_of As121 ⟨by decide, by decide⟩
    obtain ⟨T121, h121, X121, e121, W121, st121⟩ := stB X117 hx hZ e117 Ar121 (j := (3 : Int32)) hin121 (g := (mkF m 124 #[.val (.int p1), .val (.int p2), .val (.int p3), .val (.int p4), .val (.int v2), .val (.int v4), .val (.int v6), .val (.int v8), .val (.int v10), .val (.int (2 : Int32)), .val (.int v14), .val (.ref b16), .unset, .unset] [(.int (v4.toInt8.toInt32)), (.int (3 : Int32)), (.ref b16)])) rfl rfl (hb hby at_124)
    have pre122 : ∀ tq, Steps p.tables e below (T121.setTop (mkF m 125 #[.val (.int p1), .val (.int p2), .val (.int p3), .val (.int p4), .val (.int v2), .val (.int v4), .val (.int v6), .val (.int v8), .val (.int v10), .val (.int (2 : Int32)), .val (.int v14), .val (.ref b16), .unset, .unset] [])) tq → Steps p.tables e below (s₁.setTop (entryFrame m #[(.int p1), (.int p2), (.int p3), (.int p4)] maxLocals)) tq := fun tq kq => pre120 tq (st121 _ kq)
    have N121 := Fr.snoc X121 N117 g_b16
    have K121 : Keep h0 h121 [] := Keep.wr K117 W121 (Or.inr sz_b16)
    have f123 : Arv Z h121 b16 k16 .byte (8 : Int32) [(.int (nar .byte v14)), (.int (nar .byte v14)), (.int (nar .byte (v2.toInt8.toInt32))), (.int (nar .byte (v4.toInt8.toInt32))), (.int (nar .byte v14)), (.int (nar .byte v14)), (.int (nar .byte v14)), (.int (nar .byte v14))] (.int (0 : Int32)) := Arv.set Ar121 Aq121 As121 An121 Ah121 Ag121 (fits_nar_byte _) W121 3 rfl (Nat.le_of_ble_eq_true rfl)
    have pre124 : ∀ tq, Steps p.tables e below (T121.setTop (mkF m 134 #[.val (.int p1), .val (.int p2), .val (.int p3), .val (.int p4), .val (.int v2), .val (.int v4), .val (.int v6), .val (.int v8), .val (.int v10), .val (.int (2 : Int32)), .val (.int v14), .val (.ref b16), .unset, .unset] [(.int (v6.toInt8.toInt32)), (.int (4 : Int32)), (.ref b16)])) tq → Steps p.tables e below (s₁.setTop (entryFrame m #[(.int p1), (.int p2), (.int p3), (.int p4)] maxLocals)) tq := by
      refine fun tq kq => pre122 tq ?_
      show Steps p.tables e below (T121.setTop (mkF m 125 #[.val (.int p1), .val (.int p2), .val (.int p3), .val (.int p4), .val (.int v2), .val (.int v4), .val (.int v6), .val (.int v8), .val (.int v10), .val (.int (2 : Int32)), .val (.int v14), .val (.ref b16), .unset, .unset] [])) _
      refine XS.aload X121.here hx rfl (hb hby at_125) rfl rfl ?_
      show Steps p.tables e below (T121.setTop (mkF m 127 #[.val (.int p1), .val (.int p2), .val (.int p3), .val (.int p4), .val (.int v2), .val (.int v4), .val (.int v6), .val (.int v8), .val (.int v10), .val (.int (2 : Int32)), .val (.int v14), .val (.ref b16), .unset, .unset] [(.ref b16)])) _
      refine XS.iload X121.here hx rfl (hb hby at_127) rfl ?_
      show Steps p.tables e below (T121.setTop (mkF m 129 #[.val (.int p1), .val (.int p2), .val (.int p3), .val (.int p4), .val (.int v2), .val (.int v4), .val (.int v6), .val (.int v8), .val (.int v10), .val (.int (2 : Int32)), .val (.int v14), .val (.ref b16), .unset, .unset] [(.int (2 : Int32)), (.ref b16)])) _
      refine XS.iconst X121.here hx rfl (hb hby at_129) ?_
      show Steps p.tables e below (T121.setTop (mkF m 130 #[.val (.int p1), .val (.int p2), .val (.int p3), .val (.int p4), .val (.int v2), .val (.int v4), .val (.int v6), .val (.int v8), .val (.int v10), .val (.int (2 : Int32)), .val (.int v14), .val (.ref b16), .unset, .unset] [(.int (2 : Int32)), (.int (2 : Int32)), (.ref b16)])) _
      refine XS.iadd X121.here hx rfl (hb hby at_130) rfl ?_
      show Steps p.tables e below (T121.setTop (mkF m 131 #[.val (.int p1), .val (.int p2), .val (.int p3), .val (.int p4), .val (.int v2), .val (.int v4), .val (.int v6), .val (.int v8), .val (.int v10), .val (.int (2 : Int32)), .val (.int v14), .val (.ref b16), .unset, .unset] [(.int (4 : Int32)), (.ref b16)])) _
      refine XS.iload X121.here hx rfl (hb hby at_131) rfl ?_
      show Steps p.tables e below (T121.setTop (mkF m 133 #[.val (.int p1), .val (.int p2), .val (.int p3), .val (.int p4), .val (.int v2), .val (.int v4), .val (.int v6), .val (.int v8), .val (.int v10), .val (.int (2 : Int32)), .val (.int v14), .val (.ref b16), .unset, .unset] [(.int v6), (.int (4 : Int32)), (.ref b16)])) _
      refine XS.i2b X121.here hx rfl (hb hby at_133) rfl ?_
      exact kq
    have Vc125 := f123
    obtain ⟨cl125, Ar125, Aq125, As125, An125, Ah125, Ag125⟩ := Vc125
    have hin125 : ¬ ((4 : Int32) < 0 ∨ cl125.slots.size ≤ ((4 : Int32)).toNatClampNeg) := inb_of As125 ⟨by decide, by decide⟩
    obtain ⟨T125, h125, X125, e125, W125, st125⟩ := stB X121 hx hZ e121 Ar125 (j := (4 : Int32)) hin125 (g := (mkF m 134 #[.val (.int p1), .val (.int p2), .val (.int p3), .val (.int p4), .val (.int v2), .val (.int v4), .val (.int v6), .val (.int v8), .val (.int v10), .val (.int (2 : Int32)), .val (.int v14), .val (.ref b16), .unset, .unset] [(.int (v6.toInt8.toInt32)), (.int (4 : Int32)), (.ref b16)])) rfl rfl (hb hby at_134)
    have pre126 : ∀ tq, Steps p.tables e below (T125.setTop (mkF m 135 #[.val (.int p1), .val (.int p2), .val (.int p3), .val (.int p4), .val (.int v2), .val (.int v4), .val (.int v6), .val (.int v8), .val (.int v10), .val (.int (2 : Int32)), .val (.int v14), .val (.ref b16), .unset, .unset] [])) tq → Steps p.tables e below (s₁.setTop (entryFrame m #[(.int p1), (.int p2), (.int p3), (.int p4)] maxLocals)) tq := fun tq kq => pre124 tq (st125 _ kq)
    have N125 := Fr.snoc X125 N121 g_b16
    have K125 : Keep h0 h125 [] := Keep.wr K121 W125 (Or.inr sz_b16)
    have f127 : Arv Z h125 b16 k16 .byte (8 : Int32) [(.int (nar .byte v14)), (.int (nar .byte v14)), (.int (nar .byte (v2.toInt8.toInt32))), (.int (nar .byte (v4.toInt8.toInt32))), (.int (nar .byte (v6.toInt8.toInt32))), (.int (nar .byte v14)), (.int (nar .byte v14)), (.int (nar .byte v14))] (.int (0 : Int32)) := Arv.set Ar125 Aq125 As125 An125 Ah125 Ag125 (fits_nar_byte _) W125 4 rfl (Nat.le_of_ble_eq_true rfl)
    have pre128 : ∀ tq, Steps p.tables e below (T125.setTop (mkF m 144 #[.val (.int p1), .val (.int p2), .val (.int p3), .val (.int p4), .val (.int v2), .val (.int v4), .val (.int v6), .val (.int v8), .val (.int v10), .val (.int (2 : Int32)), .val (.int v14), .val (.ref b16), .unset, .unset] [(.int (v8.toInt8.toInt32)), (.int (5 : Int32)), (.ref b16)])) tq → Steps p.tables e below (s₁.setTop (entryFrame m #[(.int p1), (.int p2), (.int p3), (.int p4)] maxLocals)) tq := by
      refine fun tq kq => pre126 tq ?_
      show Steps p.tables e below (T125.setTop (mkF m 135 #[.val (.int p1), .val (.int p2), .val (.int p3), .val (.int p4), .val (.int v2), .val (.int v4), .val (.int v6), .val (.int v8), .val (.int v10), .val (.int (2 : Int32)), .val (.int v14), .val (.ref b16), .unset, .unset] [])) _
      refine XS.aload X125.here hx rfl (hb hby at_135) rfl rfl ?_
      show Steps p.tables e below (T125.setTop (mkF m 137 #[.val (.int p1), .val (.int p2), .val (.int p3), .val (.int p4), .val (.int v2), .val (.int v4), .val (.int v6), .val (.int v8), .val (.int v10), .val (.int (2 : Int32)), .val (.int v14), .val (.ref b16), .unset, .unset] [(.ref b16)])) _
      refine XS.iload X125.here hx rfl (hb hby at_137) rfl ?_
      show Steps p.tables e below (T125.setTop (mkF m 139 #[.val (.int p1), .val (.int p2), .val (.int p3), .val (.int p4), .val (.int v2), .val (.int v4), .val (.int v6), .val (.int v8), .val (.int v10), .val (.int (2 : Int32)), .val (.int v14), .val (.ref b16), .unset, .unset] [(.int (2 : Int32)), (.ref b16)])) _
      refine XS.iconst X125.here hx rfl (hb hby at_139) ?_
      show Steps p.tables e below (T125.setTop (mkF m 140 #[.val (.int p1), .val (.int p2), .val (.int p3), .val (.int p4), .val (.int v2), .val (.int v4), .val (.int v6), .val (.int v8), .val (.int v10), .val (.int (2 : Int32)), .val (.int v14), .val (.ref b16), .unset, .unset] [(.int (3 : Int32)), (.int (2 : Int32)), (.ref b16)])) _
      refine XS.iadd X125.here hx rfl (hb hby at_140) rfl ?_
      show Steps p.tables e below (T125.setTop (mkF m 141 #[.val (.int p1), .val (.int p2), .val (.int p3), .val (.int p4), .val (.int v2), .val (.int v4), .val (.int v6), .val (.int v8), .val (.int v10), .val (.int (2 : Int32)), .val (.int v14), .val (.ref b16), .unset, .unset] [(.int (5 : Int32)), (.ref b16)])) _
      refine XS.iload X125.here hx rfl (hb hby at_141) rfl ?_
      show Steps p.tables e below (T125.setTop (mkF m 143 #[.val (.int p1), .val (.int p2), .val (.int p3), .val (.int p4), .val (.int v2), .val (.int v4), .val (.int v6), .val (.int v8), .val (.int v10), .val (.int (2 : Int32)), .val (.int v14), .val (.ref b16), .unset, .unset] [(.int v8), (.int (5 : Int32)), (.ref b16)])) _
      refine XS.i2b X125.here hx rfl (hb hby at_143) rfl ?_
      exact kq
    have Vc129 := f127
    obtain ⟨cl129, Ar129, Aq129, As129, An129, Ah129, Ag129⟩ := Vc129
    have hin129 : ¬ ((5 : Int32) < 0 ∨ cl129.slots.size ≤ ((5 : Int32)).toNatClampNeg) := inb_of As129 ⟨by decide, by decide⟩
    obtain ⟨T129, h129, X129, e129, W129, st129⟩ := stB X125 hx hZ e125 Ar129 (j := (5 : Int32)) hin129 (g := (mkF m 144 #[.val (.int p1), .val (.int p2), .val (.int p3), .val (.int p4), .val (.int v2), .val (.int v4), .val (.int v6), .val (.int v8), .val (.int v10), .val (.int (2 : Int32)), .val (.int v14), .val (.ref b16), .unset, .unset] [(.int (v8.toInt8.toInt32)), (.int (5 : Int32)), (.ref b16)])) rfl rfl (hb hby at_144)
    have pre130 : ∀ tq, Steps p.tables e below (T129.setTop (mkF m 145 #[.val (.int p1), .val (.int p2), .val (.int p3), .val (.int p4), .val (.int v2), .val (.int v4), .val (.int v6), .val (.int v8), .val (.int v10), .val (.int (2 : Int32)), .val (.int v14), .val (.ref b16), .unset, .unset] [])) tq → Steps p.tables e below (s₁.setTop (entryFrame m #[(.int p1), (.int p2), (.int p3), (.int p4)] maxLocals)) tq := fun tq kq => pre128 tq (st129 _ kq)
    have N129 := Fr.snoc X129 N125 g_b16
    have K129 : Keep h0 h129 [] := Keep.wr K125 W129 (Or.inr sz_b16)
    have f131 : Arv Z h129 b16 k16 .byte (8 : Int32) [(.int (nar .byte v14)), (.int (nar .byte v14)), (.int (nar .byte (v2.toInt8.toInt32))), (.int (nar .byte (v4.toInt8.toInt32))), (.int (nar .byte (v6.toInt8.toInt32))), (.int (nar .byte (v8.toInt8.toInt32))), (.int (nar .byte v14)), (.int (nar .byte v14))] (.int (0 : Int32)) := Arv.set Ar129 Aq129 As129 An129 Ah129 Ag129 (fits_nar_byte _) W129 5 rfl (Nat.le_of_ble_eq_true rfl)
    have pre132 : ∀ tq, Steps p.tables e below (T129.setTop (mkF m 154 #[.val (.int p1), .val (.int p2), .val (.int p3), .val (.int p4), .val (.int v2), .val (.int v4), .val (.int v6), .val (.int v8), .val (.int v10), .val (.int (2 : Int32)), .val (.int v14), .val (.ref b16), .unset, .unset] [(.int (v10.toInt8.toInt32)), (.int (6 : Int32)), (.ref b16)])) tq → Steps p.tables e below (s₁.setTop (entryFrame m #[(.int p1), (.int p2), (.int p3), (.int p4)] maxLocals)) tq := by
      refine fun tq kq => pre130 tq ?_
      show Steps p.tables e below (T129.setTop (mkF m 145 #[.val (.int p1), .val (.int p2), .val (.int p3), .val (.int p4), .val (.int v2), .val (.int v4), .val (.int v6), .val (.int v8), .val (.int v10), .val (.int (2 : Int32)), .val (.int v14), .val (.ref b16), .unset, .unset] [])) _
      refine XS.aload X129.here hx rfl (hb hby at_145) rfl rfl ?_
      show Steps p.tables e below (T129.setTop (mkF m 147 #[.val (.int p1), .val (.int p2), .val (.int p3), .val (.int p4), .val (.int v2), .val (.int v4), .val (.int v6), .val (.int v8), .val (.int v10), .val (.int (2 : Int32)), .val (.int v14), .val (.ref b16), .unset, .unset] [(.ref b16)])) _
      refine XS.iload X129.here hx rfl (hb hby at_147) rfl ?_
      show Steps p.tables e below (T129.setTop (mkF m 149 #[.val (.int p1), .val (.int p2), .val (.int p3), .val (.int p4), .val (.int v2), .val (.int v4), .val (.int v6), .val (.int v8), .val (.int v10), .val (.int (2 : Int32)), .val (.int v14), .val (.ref b16), .unset, .unset] [(.int (2 : Int32)), (.ref b16)])) _
      refine XS.iconst X129.here hx rfl (hb hby at_149) ?_
      show Steps p.tables e below (T129.setTop (mkF m 150 #[.val (.int p1), .val (.int p2), .val (.int p3), .val (.int p4), .val (.int v2), .val (.int v4), .val (.int v6), .val (.int v8), .val (.int v10), .val (.int (2 : Int32)), .val (.int v14), .val (.ref b16), .unset, .unset] [(.int (4 : Int32)), (.int (2 : Int32)), (.ref b16)])) _
      refine XS.iadd X129.here hx rfl (hb hby at_150) rfl ?_
      show Steps p.tables e below (T129.setTop (mkF m 151 #[.val (.int p1), .val (.int p2), .val (.int p3), .val (.int p4), .val (.int v2), .val (.int v4), .val (.int v6), .val (.int v8), .val (.int v10), .val (.int (2 : Int32)), .val (.int v14), .val (.ref b16), .unset, .unset] [(.int (6 : Int32)), (.ref b16)])) _
      refine XS.iload X129.here hx rfl (hb hby at_151) rfl ?_
      show Steps p.tables e below (T129.setTop (mkF m 153 #[.val (.int p1), .val (.int p2), .val (.int p3), .val (.int p4), .val (.int v2), .val (.int v4), .val (.int v6), .val (.int v8), .val (.int v10), .val (.int (2 : Int32)), .val (.int v14), .val (.ref b16), .unset, .unset] [(.int v10), (.int (6 : Int32)), (.ref b16)])) _
      refine XS.i2b X129.here hx rfl (hb hby at_153) rfl ?_
      exact kq
    have Vc133 := f131
    obtain ⟨cl133, Ar133, Aq133, As133, An133, Ah133, Ag133⟩ := Vc133
    have hin133 : ¬ ((6 : Int32) < 0 ∨ cl133.slots.size ≤ ((6 : Int32)).toNatClampNeg) := inb_of As133 ⟨by decide, by decide⟩
    obtain ⟨T133, h133, X133, e133, W133, st133⟩ := stB X129 hx hZ e129 Ar133 (j := (6 : Int32)) hin133 (g := (mkF m 154 #[.val (.int p1), .val (.int p2), .val (.int p3), .val (.int p4), .val (.int v2), .val (.int v4), .val (.int v6), .val (.int v8), .val (.int v10), .val (.int (2 : Int32)), .val (.int v14), .val (.ref b16), .unset, .unset] [(.int (v10.toInt8.toInt32)), (.int (6 : Int32)), (.ref b16)])) rfl rfl (hb hby at_154)
    have pre134 : ∀ tq, Steps p.tables e below (T133.setTop (mkF m 155 #[.val (.int p1), .val (.int p2), .val (.int p3), .val (.int p4), .val (.int v2), .val (.int v4), .val (.int v6), .val (.int v8), .val (.int v10), .val (.int (2 : Int32)), .val (.int v14), .val (.ref b16), .unset, .unset] [])) tq → Steps p.tables e below (s₁.setTop (entryFrame m #[(.int p1), (.int p2), (.int p3), (.int p4)] maxLocals)) tq := fun tq kq => pre132 tq (st133 _ kq)
    have N133 := Fr.snoc X133 N129 g_b16
    have K133 : Keep h0 h133 [] := Keep.wr K129 W133 (Or.inr sz_b16)
    have f135 : Arv Z h133 b16 k16 .byte (8 : Int32) [(.int (nar .byte v14)), (.int (nar .byte v14)), (.int (nar .byte (v2.toInt8.toInt32))), (.int (nar .byte (v4.toInt8.toInt32))), (.int (nar .byte (v6.toInt8.toInt32))), (.int (nar .byte (v8.toInt8.toInt32))), (.int (nar .byte (v10.toInt8.toInt32))), (.int (nar .byte v14))] (.int (0 : Int32)) := Arv.set Ar133 Aq133 As133 An133 Ah133 Ag133 (fits_nar_byte _) W133 6 rfl (Nat.le_of_ble_eq_true rfl)
    obtain ⟨v136, hj137, pre137⟩ : ∃ v136 : Int32, (((223 : Int32) < v2 ∧ (239 : Int32) < v2 ∧ v136 = (4 : Int32)) ∨ ((223 : Int32) < v2 ∧ ¬ ((239 : Int32) < v2) ∧ v136 = (3 : Int32)) ∨ (¬ ((223 : Int32) < v2) ∧ v136 = (2 : Int32))) ∧ (∀ tq, Steps p.tables e below (T133.setTop (mkF m 180 #[.val (.int p1), .val (.int p2), .val (.int p3), .val (.int p4), .val (.int v2), .val (.int v4), .val (.int v6), .val (.int v8), .val (.int v10), .val (.int (2 : Int32)), .val (.int v14), .val (.ref b16), .unset, .unset] [(.int v136)])) tq → Steps p.tables e below (s₁.setTop (entryFrame m #[(.int p1), (.int p2), (.int p3), (.int p4)] maxLocals)) tq) := by
      by_cases hb0_160 : (223 : Int32) < v2
      · skip
        by_cases hb1_172 : (239 : Int32) < v2
        · skip
          refine ⟨(4 : Int32), Or.inl (⟨hb0_160, hb1_172, rfl⟩), fun tq kq => pre134 tq ?_⟩
          show Steps p.tables e below (T133.setTop (mkF m 155 #[.val (.int p1), .val (.int p2), .val (.int p3), .val (.int p4), .val (.int v2), .val (.int v4), .val (.int v6), .val (.int v8), .val (.int v10), .val (.int (2 : Int32)), .val (.int v14), .val (.ref b16), .unset, .unset] [])) _
          refine XS.iload X133.here hx rfl (hb hby at_155) rfl ?_
          show Steps p.tables e below (T133.setTop (mkF m 157 #[.val (.int p1), .val (.int p2), .val (.int p3), .val (.int p4), .val (.int v2), .val (.int v4), .val (.int v6), .val (.int v8), .val (.int v10), .val (.int (2 : Int32)), .val (.int v14), .val (.ref b16), .unset, .unset] [(.int v2)])) _
          refine XS.sipush X133.here hx rfl (hb hby at_157) ?_
          show Steps p.tables e below (T133.setTop (mkF m 160 #[.val (.int p1), .val (.int p2), .val (.int p3), .val (.int p4), .val (.int v2), .val (.int v4), .val (.int v6), .val (.int v8), .val (.int v10), .val (.int (2 : Int32)), .val (.int v14), .val (.ref b16), .unset, .unset] [(.int (223 : Int32)), (.int v2)])) _
          refine XS.icmpYes X133.here hx rfl (pc0 := 160) (pc' := 167) rfl (hb hby at_160) rfl (tlt hb0_160).2.2.1 (by decide) (by decide) ?_
          show Steps p.tables e below (T133.setTop (mkF m 167 #[.val (.int p1), .val (.int p2), .val (.int p3), .val (.int p4), .val (.int v2), .val (.int v4), .val (.int v6), .val (.int v8), .val (.int v10), .val (.int (2 : Int32)), .val (.int v14), .val (.ref b16), .unset, .unset] [])) _
          refine XS.iload X133.here hx rfl (hb hby at_167) rfl ?_
          show Steps p.tables e below (T133.setTop (mkF m 169 #[.val (.int p1), .val (.int p2), .val (.int p3), .val (.int p4), .val (.int v2), .val (.int v4), .val (.int v6), .val (.int v8), .val (.int v10), .val (.int (2 : Int32)), .val (.int v14), .val (.ref b16), .unset, .unset] [(.int v2)])) _
          refine XS.sipush X133.here hx rfl (hb hby at_169) ?_
          show Steps p.tables e below (T133.setTop (mkF m 172 #[.val (.int p1), .val (.int p2), .val (.int p3), .val (.int p4), .val (.int v2), .val (.int v4), .val (.int v6), .val (.int v8), .val (.int v10), .val (.int (2 : Int32)), .val (.int v14), .val (.ref b16), .unset, .unset] [(.int (239 : Int32)), (.int v2)])) _
          refine XS.icmpYes X133.here hx rfl (pc0 := 172) (pc' := 179) rfl (hb hby at_172) rfl (tlt hb1_172).2.2.1 (by decide) (by decide) ?_
          show Steps p.tables e below (T133.setTop (mkF m 179 #[.val (.int p1), .val (.int p2), .val (.int p3), .val (.int p4), .val (.int v2), .val (.int v4), .val (.int v6), .val (.int v8), .val (.int v10), .val (.int (2 : Int32)), .val (.int v14), .val (.ref b16), .unset, .unset] [])) _
          refine XS.iconst X133.here hx rfl (hb hby at_179) ?_
          exact kq
        · skip
          refine ⟨(3 : Int32), Or.inr (Or.inl (⟨hb0_160, hb1_172, rfl⟩)), fun tq kq => pre134 tq ?_⟩
          show Steps p.tables e below (T133.setTop (mkF m 155 #[.val (.int p1), .val (.int p2), .val (.int p3), .val (.int p4), .val (.int v2), .val (.int v4), .val (.int v6), .val (.int v8), .val (.int v10), .val (.int (2 : Int32)), .val (.int v14), .val (.ref b16), .unset, .unset] [])) _
          refine XS.iload X133.here hx rfl (hb hby at_155) rfl ?_
          show Steps p.tables e below (T133.setTop (mkF m 157 #[.val (.int p1), .val (.int p2), .val (.int p3), .val (.int p4), .val (.int v2), .val (.int v4), .val (.int v6), .val (.int v8), .val (.int v10), .val (.int (2 : Int32)), .val (.int v14), .val (.ref b16), .unset, .unset] [(.int v2)])) _
          refine XS.sipush X133.here hx rfl (hb hby at_157) ?_
          show Steps p.tables e below (T133.setTop (mkF m 160 #[.val (.int p1), .val (.int p2), .val (.int p3), .val (.int p4), .val (.int v2), .val (.int v4), .val (.int v6), .val (.int v8), .val (.int v10), .val (.int (2 : Int32)), .val (.int v14), .val (.ref b16), .unset, .unset] [(.int (223 : Int32)), (.int v2)])) _
          refine XS.icmpYes X133.here hx rfl (pc0 := 160) (pc' := 167) rfl (hb hby at_160) rfl (tlt hb0_160).2.2.1 (by decide) (by decide) ?_
          show Steps p.tables e below (T133.setTop (mkF m 167 #[.val (.int p1), .val (.int p2), .val (.int p3), .val (.int p4), .val (.int v2), .val (.int v4), .val (.int v6), .val (.int v8), .val (.int v10), .val (.int (2 : Int32)), .val (.int v14), .val (.ref b16), .unset, .unset] [])) _
          refine XS.iload X133.here hx rfl (hb hby at_167) rfl ?_
          show Steps p.tables e below (T133.setTop (mkF m 169 #[.val (.int p1), .val (.int p2), .val (.int p3), .val (.int p4), .val (.int v2), .val (.int v4), .val (.int v6), .val (.int v8), .val (.int v10), .val (.int (2 : Int32)), .val (.int v14), .val (.ref b16), .unset, .unset] [(.int v2)])) _
          refine XS.sipush X133.here hx rfl (hb hby at_169) ?_
          show Steps p.tables e below (T133.setTop (mkF m 172 #[.val (.int p1), .val (.int p2), .val (.int p3), .val (.int p4), .val (.int v2), .val (.int v4), .val (.int v6), .val (.int v8), .val (.int v10), .val (.int (2 : Int32)), .val (.int v14), .val (.ref b16), .unset, .unset] [(.int (239 : Int32)), (.int v2)])) _
          refine XS.icmpNo X133.here hx rfl (hb hby at_172) rfl (flt hb1_172).2.2.1 ?_
          show Steps p.tables e below (T133.setTop (mkF m 175 #[.val (.int p1), .val (.int p2), .val (.int p3), .val (.int p4), .val (.int v2), .val (.int v4), .val (.int v6), .val (.int v8), .val (.int v10), .val (.int (2 : Int32)), .val (.int v14), .val (.ref b16), .unset, .unset] [])) _
          refine XS.iconst X133.here hx rfl (hb hby at_175) ?_
          show Steps p.tables e below (T133.setTop (mkF m 176 #[.val (.int p1), .val (.int p2), .val (.int p3), .val (.int p4), .val (.int v2), .val (.int v4), .val (.int v6), .val (.int v8), .val (.int v10), .val (.int (2 : Int32)), .val (.int v14), .val (.ref b16), .unset, .unset] [(.int (3 : Int32))])) _
          refine XS.goto X133.here hx rfl (pc0 := 176) (pc' := 180) rfl (hb hby at_176) (by decide) (by decide) ?_
          exact kq
      · skip
        refine ⟨(2 : Int32), Or.inr (Or.inr (⟨hb0_160, rfl⟩)), fun tq kq => pre134 tq ?_⟩
        show Steps p.tables e below (T133.setTop (mkF m 155 #[.val (.int p1), .val (.int p2), .val (.int p3), .val (.int p4), .val (.int v2), .val (.int v4), .val (.int v6), .val (.int v8), .val (.int v10), .val (.int (2 : Int32)), .val (.int v14), .val (.ref b16), .unset, .unset] [])) _
        refine XS.iload X133.here hx rfl (hb hby at_155) rfl ?_
        show Steps p.tables e below (T133.setTop (mkF m 157 #[.val (.int p1), .val (.int p2), .val (.int p3), .val (.int p4), .val (.int v2), .val (.int v4), .val (.int v6), .val (.int v8), .val (.int v10), .val (.int (2 : Int32)), .val (.int v14), .val (.ref b16), .unset, .unset] [(.int v2)])) _
        refine XS.sipush X133.here hx rfl (hb hby at_157) ?_
        show Steps p.tables e below (T133.setTop (mkF m 160 #[.val (.int p1), .val (.int p2), .val (.int p3), .val (.int p4), .val (.int v2), .val (.int v4), .val (.int v6), .val (.int v8), .val (.int v10), .val (.int (2 : Int32)), .val (.int v14), .val (.ref b16), .unset, .unset] [(.int (223 : Int32)), (.int v2)])) _
        refine XS.icmpNo X133.here hx rfl (hb hby at_160) rfl (flt hb0_160).2.2.1 ?_
        show Steps p.tables e below (T133.setTop (mkF m 163 #[.val (.int p1), .val (.int p2), .val (.int p3), .val (.int p4), .val (.int v2), .val (.int v4), .val (.int v6), .val (.int v8), .val (.int v10), .val (.int (2 : Int32)), .val (.int v14), .val (.ref b16), .unset, .unset] [])) _
        refine XS.iconst X133.here hx rfl (hb hby at_163) ?_
        show Steps p.tables e below (T133.setTop (mkF m 164 #[.val (.int p1), .val (.int p2), .val (.int p3), .val (.int p4), .val (.int v2), .val (.int v4), .val (.int v6), .val (.int v8), .val (.int v10), .val (.int (2 : Int32)), .val (.int v14), .val (.ref b16), .unset, .unset] [(.int (2 : Int32))])) _
        refine XS.goto X133.here hx rfl (pc0 := 164) (pc' := 180) rfl (hb hby at_164) (by decide) (by decide) ?_
        exact kq
    have pre138 : ∀ tq, Steps p.tables e below (T133.setTop (mkF m 192 #[.val (.int p1), .val (.int p2), .val (.int p3), .val (.int p4), .val (.int v2), .val (.int v4), .val (.int v6), .val (.int v8), .val (.int v10), .val (.int (2 : Int32)), .val (.int v14), .val (.ref b16), .val (.int v136), .unset] [(.int v8), (.int v6), (.int v4), (.int v136), (.int v2)])) tq → Steps p.tables e below (s₁.setTop (entryFrame m #[(.int p1), (.int p2), (.int p3), (.int p4)] maxLocals)) tq := by
      refine fun tq kq => pre137 tq ?_
      show Steps p.tables e below (T133.setTop (mkF m 180 #[.val (.int p1), .val (.int p2), .val (.int p3), .val (.int p4), .val (.int v2), .val (.int v4), .val (.int v6), .val (.int v8), .val (.int v10), .val (.int (2 : Int32)), .val (.int v14), .val (.ref b16), .unset, .unset] [(.int v136)])) _
      refine XS.istore X133.here hx rfl (hb hby at_180) rfl (l' := #[.val (.int p1), .val (.int p2), .val (.int p3), .val (.int p4), .val (.int v2), .val (.int v4), .val (.int v6), .val (.int v8), .val (.int v10), .val (.int (2 : Int32)), .val (.int v14), .val (.ref b16), .val (.int v136), .unset]) rfl ?_
      show Steps p.tables e below (T133.setTop (mkF m 182 #[.val (.int p1), .val (.int p2), .val (.int p3), .val (.int p4), .val (.int v2), .val (.int v4), .val (.int v6), .val (.int v8), .val (.int v10), .val (.int (2 : Int32)), .val (.int v14), .val (.ref b16), .val (.int v136), .unset] [])) _
      refine XS.iload X133.here hx rfl (hb hby at_182) rfl ?_
      show Steps p.tables e below (T133.setTop (mkF m 184 #[.val (.int p1), .val (.int p2), .val (.int p3), .val (.int p4), .val (.int v2), .val (.int v4), .val (.int v6), .val (.int v8), .val (.int v10), .val (.int (2 : Int32)), .val (.int v14), .val (.ref b16), .val (.int v136), .unset] [(.int v2)])) _
      refine XS.iload X133.here hx rfl (hb hby at_184) rfl ?_
      show Steps p.tables e below (T133.setTop (mkF m 186 #[.val (.int p1), .val (.int p2), .val (.int p3), .val (.int p4), .val (.int v2), .val (.int v4), .val (.int v6), .val (.int v8), .val (.int v10), .val (.int (2 : Int32)), .val (.int v14), .val (.ref b16), .val (.int v136), .unset] [(.int v136), (.int v2)])) _
      refine XS.iload X133.here hx rfl (hb hby at_186) rfl ?_
      show Steps p.tables e below (T133.setTop (mkF m 188 #[.val (.int p1), .val (.int p2), .val (.int p3), .val (.int p4), .val (.int v2), .val (.int v4), .val (.int v6), .val (.int v8), .val (.int v10), .val (.int (2 : Int32)), .val (.int v14), .val (.ref b16), .val (.int v136), .unset] [(.int v4), (.int v136), (.int v2)])) _
      refine XS.iload X133.here hx rfl (hb hby at_188) rfl ?_
      show Steps p.tables e below (T133.setTop (mkF m 190 #[.val (.int p1), .val (.int p2), .val (.int p3), .val (.int p4), .val (.int v2), .val (.int v4), .val (.int v6), .val (.int v8), .val (.int v10), .val (.int (2 : Int32)), .val (.int v14), .val (.ref b16), .val (.int v136), .unset] [(.int v6), (.int v4), (.int v136), (.int v2)])) _
      refine XS.iload X133.here hx rfl (hb hby at_190) rfl ?_
      exact kq
    have Z139 : n0 ≤ h133.size := (Nat.le_trans (Nat.le_trans (Nat.le_trans (Nat.le_trans (Nat.le_trans (Nat.le_trans (Nat.le_trans (Nat.le_trans (Nat.le_trans (Nat.le_trans (Nat.le_trans (Nat.le_trans (Nat.le_trans (Nat.le_trans Z0 E16.1) (Keep.of_wr W20).1) (Keep.of_wr W24).1) (Keep.of_wr W28).1) (Keep.of_wr W32).1) (Keep.of_wr W36).1) (Keep.of_wr W40).1) (Keep.of_wr W44).1) (Keep.of_wr W48).1) (Keep.of_wr W117).1) (Keep.of_wr W121).1) (Keep.of_wr W125).1) (Keep.of_wr W129).1) (Keep.of_wr W133).1)
    obtain ⟨_, _, ⟨T139, L139, k139, n139⟩, -, X139, ⟨Lc139, hQ139, l139, y139, z139⟩, st139⟩ := Jvm.LawKit.callS X133 hx (y := (⟨"com/example/partwise/partwise/storage/Utf8ContinuesSequencePinLaw", "expected", "(IIIII)Z"⟩ : MethodName)) hown (mvT hZ (hw _ (List.mem_of_getElem? (i := 2) rfl))) (mvT hZ (hw _ (List.mem_of_getElem? (i := 3) rfl))) (mvT hZ (hw _ (List.mem_of_getElem? (i := 4) rfl))) (mvT hZ (hw _ (List.mem_of_getElem? (i := 5) rfl))) (by decide) (backOf (W := 0) (rm1 l Z a0 hw [] v2 v136 v4 v6 v8  h133 n0 Z139 (by simp only [Int32.lt_iff_toInt_lt, ← Int32.toInt_inj, Int32.reduceToInt] at hj137 ⊢; omega) (⟨hb5, hb6, hb7⟩)) hZ (hw _ (List.mem_of_getElem? (i := 5) rfl)) (hw _ (List.mem_of_getElem? (i := 4) rfl)) (by decide) (by decide)) (g := (mkF m 192 #[.val (.int p1), .val (.int p2), .val (.int p3), .val (.int p4), .val (.int v2), .val (.int v4), .val (.int v6), .val (.int v8), .val (.int v10), .val (.int (2 : Int32)), .val (.int v14), .val (.ref b16), .val (.int v136), .unset] [(.int v8), (.int v6), (.int v4), (.int v136), (.int v2)])) rfl (by rw [hml]; rfl) (argsL := [(.int v2), (.int v136), (.int v4), (.int v6), (.int v8)]) (rest := []) (lenOf pd0_0 rfl) rfl (by show 2 * 0 + _ ≤ _; exact Nat.le_of_eq rfl) (hb hby at_192) (fun _ _ => ⟨rfl, e133, (by decide : (0 + 1) + 0 ≤ _), (by decide : (0 + 8) + 0 ≤ _)⟩)
    dsimp only [Pt.U, Pt.locs, Pt.cells, Pt.slots] at X139 l139 y139 z139 st139 hQ139
    subst l139 y139 z139
    obtain ⟨r140, rfl, Nq139, ehq139, hq139⟩ := hQ139
    have N139 := Fr.app N133 Nq139
    have pre141 : ∀ tq, Steps p.tables e below (T139.setTop (mkF m 195 #[.val (.int p1), .val (.int p2), .val (.int p3), .val (.int p4), .val (.int v2), .val (.int v4), .val (.int v6), .val (.int v8), .val (.int v10), .val (.int (2 : Int32)), .val (.int v14), .val (.ref b16), .val (.int v136), .unset] [(.int r140)])) tq → Steps p.tables e below (s₁.setTop (entryFrame m #[(.int p1), (.int p2), (.int p3), (.int p4)] maxLocals)) tq := fun tq kq => pre138 tq (st139 _ kq)
    have pre142 : ∀ tq, Steps p.tables e below (T139.setTop (mkF m 203 #[.val (.int p1), .val (.int p2), .val (.int p3), .val (.int p4), .val (.int v2), .val (.int v4), .val (.int v6), .val (.int v8), .val (.int v10), .val (.int (2 : Int32)), .val (.int v14), .val (.ref b16), .val (.int v136), .val (.int r140)] [(.int v136), (.int (2 : Int32)), (.ref b16)])) tq → Steps p.tables e below (s₁.setTop (entryFrame m #[(.int p1), (.int p2), (.int p3), (.int p4)] maxLocals)) tq := by
      refine fun tq kq => pre141 tq ?_
      show Steps p.tables e below (T139.setTop (mkF m 195 #[.val (.int p1), .val (.int p2), .val (.int p3), .val (.int p4), .val (.int v2), .val (.int v4), .val (.int v6), .val (.int v8), .val (.int v10), .val (.int (2 : Int32)), .val (.int v14), .val (.ref b16), .val (.int v136), .unset] [(.int r140)])) _
      refine XS.istore X139.here hx rfl (hb hby at_195) rfl (l' := #[.val (.int p1), .val (.int p2), .val (.int p3), .val (.int p4), .val (.int v2), .val (.int v4), .val (.int v6), .val (.int v8), .val (.int v10), .val (.int (2 : Int32)), .val (.int v14), .val (.ref b16), .val (.int v136), .val (.int r140)]) rfl ?_
      show Steps p.tables e below (T139.setTop (mkF m 197 #[.val (.int p1), .val (.int p2), .val (.int p3), .val (.int p4), .val (.int v2), .val (.int v4), .val (.int v6), .val (.int v8), .val (.int v10), .val (.int (2 : Int32)), .val (.int v14), .val (.ref b16), .val (.int v136), .val (.int r140)] [])) _
      refine XS.aload X139.here hx rfl (hb hby at_197) rfl rfl ?_
      show Steps p.tables e below (T139.setTop (mkF m 199 #[.val (.int p1), .val (.int p2), .val (.int p3), .val (.int p4), .val (.int v2), .val (.int v4), .val (.int v6), .val (.int v8), .val (.int v10), .val (.int (2 : Int32)), .val (.int v14), .val (.ref b16), .val (.int v136), .val (.int r140)] [(.ref b16)])) _
      refine XS.iload X139.here hx rfl (hb hby at_199) rfl ?_
      show Steps p.tables e below (T139.setTop (mkF m 201 #[.val (.int p1), .val (.int p2), .val (.int p3), .val (.int p4), .val (.int v2), .val (.int v4), .val (.int v6), .val (.int v8), .val (.int v10), .val (.int (2 : Int32)), .val (.int v14), .val (.ref b16), .val (.int v136), .val (.int r140)] [(.int (2 : Int32)), (.ref b16)])) _
      refine XS.iload X139.here hx rfl (hb hby at_201) rfl ?_
      exact kq
    have Z143 : n0 ≤ h133.size := (Nat.le_trans (Nat.le_trans (Nat.le_trans (Nat.le_trans (Nat.le_trans (Nat.le_trans (Nat.le_trans (Nat.le_trans (Nat.le_trans (Nat.le_trans (Nat.le_trans (Nat.le_trans (Nat.le_trans (Nat.le_trans Z0 E16.1) (Keep.of_wr W20).1) (Keep.of_wr W24).1) (Keep.of_wr W28).1) (Keep.of_wr W32).1) (Keep.of_wr W36).1) (Keep.of_wr W40).1) (Keep.of_wr W44).1) (Keep.of_wr W48).1) (Keep.of_wr W117).1) (Keep.of_wr W121).1) (Keep.of_wr W125).1) (Keep.of_wr W129).1) (Keep.of_wr W133).1)
    obtain ⟨_, _, ⟨T143, L143, k143, n143⟩, -, X143, ⟨Lc143, hQ143, l143, y143, z143⟩, st143⟩ := Jvm.LawKit.callS X139 hx (y := (⟨"com/example/partwise/partwise/storage/Utf8", "continuesSequence", "([BII)Z"⟩ : MethodName)) hown (mvT hZ (hw _ (List.mem_of_getElem? (i := 9) rfl))) (mvT hZ (hw _ (List.mem_of_getElem? (i := 10) rfl))) (mvT hZ (hw _ (List.mem_of_getElem? (i := 11) rfl))) (mvT hZ (hw _ (List.mem_of_getElem? (i := 12) rfl))) (by decide) (backOf (W := 0) (rm3 l Z a0 hw [] b16 (2 : Int32) v136 k16 [(.int (nar .byte v14)), (.int (nar .byte v14)), (.int (nar .byte (v2.toInt8.toInt32))), (.int (nar .byte (v4.toInt8.toInt32))), (.int (nar .byte (v6.toInt8.toInt32))), (.int (nar .byte (v8.toInt8.toInt32))), (.int (nar .byte (v10.toInt8.toInt32))), (.int (nar .byte v14))] (.int (0 : Int32)) (nar .byte (v2.toInt8.toInt32)) (nar .byte (v4.toInt8.toInt32)) (nar .byte (v6.toInt8.toInt32)) (nar .byte (v8.toInt8.toInt32)) h133 n0 Z143 f135 (by decide) (by simp only [Int32.lt_iff_toInt_lt, ← Int32.toInt_inj, Int32.reduceToInt] at hj137 ⊢; omega) (rfl) (rfl) (rfl) (rfl)) hZ (hw _ (List.mem_of_getElem? (i := 12) rfl)) (hw _ (List.mem_of_getElem? (i := 11) rfl)) (by decide) (by decide)) (g := (mkF m 203 #[.val (.int p1), .val (.int p2), .val (.int p3), .val (.int p4), .val (.int v2), .val (.int v4), .val (.int v6), .val (.int v8), .val (.int v10), .val (.int (2 : Int32)), .val (.int v14), .val (.ref b16), .val (.int v136), .val (.int r140)] [(.int v136), (.int (2 : Int32)), (.ref b16)])) rfl (by rw [hml]; rfl) (argsL := [(.ref b16), (.int (2 : Int32)), (.int v136)]) (rest := []) (lenOf pd0_1 rfl) rfl (by show 2 * 0 + _ ≤ _; exact Nat.le_of_eq rfl) (hb hby at_203) (fun _ _ => ⟨rfl, ehq139, (by decide : ((0 + 1) + 0) + 0 ≤ _), (by decide : ((0 + 8) + 0) + 0 ≤ _)⟩)
    dsimp only [Pt.U, Pt.locs, Pt.cells, Pt.slots] at X143 l143 y143 z143 st143 hQ143
    subst l143 y143 z143
    obtain ⟨r144, rfl, Nq143, ehq143, hq143⟩ := hQ143
    have N143 := Fr.app N139 Nq143
    have pre145 : ∀ tq, Steps p.tables e below (T143.setTop (mkF m 206 #[.val (.int p1), .val (.int p2), .val (.int p3), .val (.int p4), .val (.int v2), .val (.int v4), .val (.int v6), .val (.int v8), .val (.int v10), .val (.int (2 : Int32)), .val (.int v14), .val (.ref b16), .val (.int v136), .val (.int r140)] [(.int r144)])) tq → Steps p.tables e below (s₁.setTop (entryFrame m #[(.int p1), (.int p2), (.int p3), (.int p4)] maxLocals)) tq := fun tq kq => pre142 tq (st143 _ kq)
    obtain ⟨v146, hj147, pre147⟩ : ∃ v146 : Int32, ((r144 = r140 ∧ v146 = (1 : Int32)) ∨ (¬ (r144 = r140) ∧ v146 = (0 : Int32))) ∧ (∀ tq, Steps p.tables e below (T143.setTop (mkF m 216 #[.val (.int p1), .val (.int p2), .val (.int p3), .val (.int p4), .val (.int v2), .val (.int v4), .val (.int v6), .val (.int v8), .val (.int v10), .val (.int (2 : Int32)), .val (.int v14), .val (.ref b16), .val (.int v136), .val (.int r140)] [(.int v146)])) tq → Steps p.tables e below (s₁.setTop (entryFrame m #[(.int p1), (.int p2), (.int p3), (.int p4)] maxLocals)) tq) := by
      by_cases hb0_208 : r144 = r140
      · skip
        refine ⟨(1 : Int32), Or.inl (⟨hb0_208, rfl⟩), fun tq kq => pre145 tq ?_⟩
        show Steps p.tables e below (T143.setTop (mkF m 206 #[.val (.int p1), .val (.int p2), .val (.int p3), .val (.int p4), .val (.int v2), .val (.int v4), .val (.int v6), .val (.int v8), .val (.int v10), .val (.int (2 : Int32)), .val (.int v14), .val (.ref b16), .val (.int v136), .val (.int r140)] [(.int r144)])) _
        refine XS.iload X143.here hx rfl (hb hby at_206) rfl ?_
        show Steps p.tables e below (T143.setTop (mkF m 208 #[.val (.int p1), .val (.int p2), .val (.int p3), .val (.int p4), .val (.int v2), .val (.int v4), .val (.int v6), .val (.int v8), .val (.int v10), .val (.int (2 : Int32)), .val (.int v14), .val (.ref b16), .val (.int v136), .val (.int r140)] [(.int r140), (.int r144)])) _
        refine XS.icmpNo X143.here hx rfl (hb hby at_208) rfl (teq hb0_208).2 ?_
        show Steps p.tables e below (T143.setTop (mkF m 211 #[.val (.int p1), .val (.int p2), .val (.int p3), .val (.int p4), .val (.int v2), .val (.int v4), .val (.int v6), .val (.int v8), .val (.int v10), .val (.int (2 : Int32)), .val (.int v14), .val (.ref b16), .val (.int v136), .val (.int r140)] [])) _
        refine XS.iconst X143.here hx rfl (hb hby at_211) ?_
        show Steps p.tables e below (T143.setTop (mkF m 212 #[.val (.int p1), .val (.int p2), .val (.int p3), .val (.int p4), .val (.int v2), .val (.int v4), .val (.int v6), .val (.int v8), .val (.int v10), .val (.int (2 : Int32)), .val (.int v14), .val (.ref b16), .val (.int v136), .val (.int r140)] [(.int (1 : Int32))])) _
        refine XS.goto X143.here hx rfl (pc0 := 212) (pc' := 216) rfl (hb hby at_212) (by decide) (by decide) ?_
        exact kq
      · skip
        refine ⟨(0 : Int32), Or.inr (⟨hb0_208, rfl⟩), fun tq kq => pre145 tq ?_⟩
        show Steps p.tables e below (T143.setTop (mkF m 206 #[.val (.int p1), .val (.int p2), .val (.int p3), .val (.int p4), .val (.int v2), .val (.int v4), .val (.int v6), .val (.int v8), .val (.int v10), .val (.int (2 : Int32)), .val (.int v14), .val (.ref b16), .val (.int v136), .val (.int r140)] [(.int r144)])) _
        refine XS.iload X143.here hx rfl (hb hby at_206) rfl ?_
        show Steps p.tables e below (T143.setTop (mkF m 208 #[.val (.int p1), .val (.int p2), .val (.int p3), .val (.int p4), .val (.int v2), .val (.int v4), .val (.int v6), .val (.int v8), .val (.int v10), .val (.int (2 : Int32)), .val (.int v14), .val (.ref b16), .val (.int v136), .val (.int r140)] [(.int r140), (.int r144)])) _
        refine XS.icmpYes X143.here hx rfl (pc0 := 208) (pc' := 215) rfl (hb hby at_208) rfl (feq hb0_208).2 (by decide) (by decide) ?_
        show Steps p.tables e below (T143.setTop (mkF m 215 #[.val (.int p1), .val (.int p2), .val (.int p3), .val (.int p4), .val (.int v2), .val (.int v4), .val (.int v6), .val (.int v8), .val (.int v10), .val (.int (2 : Int32)), .val (.int v14), .val (.ref b16), .val (.int v136), .val (.int r140)] [])) _
        refine XS.iconst X143.here hx rfl (hb hby at_215) ?_
        exact kq
    have hfin : v146 = 1 := by
      have yb4 := own_byte v2 (by omega) (by omega)
      have yb5 := own_byte v4 (by omega) (by omega)
      have yb6 := own_byte v6 (by omega) (by omega)
      have yb7 := own_byte v8 (by omega) (by omega)
      rw [yb4, yb5, yb6, yb7] at hq143
      simp only [Int32.lt_iff_toInt_lt, ← Int32.toInt_inj, Int32.reduceToInt, true_and, and_true, false_and, and_false, or_false, false_or, not_true_eq_false, not_false_eq_true, true_implies, false_implies] at hq139 hq143 hj137 hj147 ⊢ <;> omega
    subst hfin
    obtain ⟨fs, hr, hrun, hended, hW, hsame⟩ := X143.leave (v := some (.int (1 : Int32))) (fun h => by rw [Bd.returns] at h; cases h)
    refine ⟨_, _, pre147 _ ?_, hrun, hended, _, _, rfl, ?_, ⟨_, rfl⟩, hW, hsame.mono (by decide) (by decide)⟩
    · skip
      show Steps p.tables e below (T143.setTop (mkF m 216 #[.val (.int p1), .val (.int p2), .val (.int p3), .val (.int p4), .val (.int v2), .val (.int v4), .val (.int v6), .val (.int v8), .val (.int v10), .val (.int (2 : Int32)), .val (.int v14), .val (.ref b16), .val (.int v136), .val (.int r140)] [(.int (1 : Int32))])) _
      exact retN X143 hx (t := .boolean) Bd.returns (by simp) (hb hby at_216) hr
    · show Q0 Z p1 p2 p3 p4 h0 n0 _ T143.heap _
      rw [ehq143]
      exact ⟨rfl, N143⟩
  · skip
    subst hk
    have pre148 : ∀ tq, Steps p.tables e below (T48.setTop (mkF m 114 #[.val (.int p1), .val (.int p2), .val (.int p3), .val (.int p4), .val (.int v2), .val (.int v4), .val (.int v6), .val (.int v8), .val (.int v10), .val (.int (3 : Int32)), .val (.int v14), .val (.ref b16), .unset, .unset] [(.int (v2.toInt8.toInt32)), (.int (3 : Int32)), (.ref b16)])) tq → Steps p.tables e below (s₁.setTop (entryFrame m #[(.int p1), (.int p2), (.int p3), (.int p4)] maxLocals)) tq := by
      refine fun tq kq => pre51 tq ?_
      show Steps p.tables e below (T48.setTop (mkF m 107 #[.val (.int p1), .val (.int p2), .val (.int p3), .val (.int p4), .val (.int v2), .val (.int v4), .val (.int v6), .val (.int v8), .val (.int v10), .val (.int (3 : Int32)), .val (.int v14), .val (.ref b16), .unset, .unset] [])) _
      refine XS.aload X48.here hx rfl (hb hby at_107) rfl rfl ?_
      show Steps p.tables e below (T48.setTop (mkF m 109 #[.val (.int p1), .val (.int p2), .val (.int p3), .val (.int p4), .val (.int v2), .val (.int v4), .val (.int v6), .val (.int v8), .val (.int v10), .val (.int (3 : Int32)), .val (.int v14), .val (.ref b16), .unset, .unset] [(.ref b16)])) _
      refine XS.iload X48.here hx rfl (hb hby at_109) rfl ?_
      show Steps p.tables e below (T48.setTop (mkF m 111 #[.val (.int p1), .val (.int p2), .val (.int p3), .val (.int p4), .val (.int v2), .val (.int v4), .val (.int v6), .val (.int v8), .val (.int v10), .val (.int (3 : Int32)), .val (.int v14), .val (.ref b16), .unset, .unset] [(.int (3 : Int32)), (.ref b16)])) _
      refine XS.iload X48.here hx rfl (hb hby at_111) rfl ?_
      show Steps p.tables e below (T48.setTop (mkF m 113 #[.val (.int p1), .val (.int p2), .val (.int p3), .val (.int p4), .val (.int v2), .val (.int v4), .val (.int v6), .val (.int v8), .val (.int v10), .val (.int (3 : Int32)), .val (.int v14), .val (.ref b16), .unset, .unset] [(.int v2), (.int (3 : Int32)), (.ref b16)])) _
      refine XS.i2b X48.here hx rfl (hb hby at_113) rfl ?_
      exact kq
    have Vc149 := f50
    obtain ⟨cl149, Ar149, Aq149, As149, An149, Ah149, Ag149⟩ := Vc149
    have hin149 : ¬ ((3 : Int32) < 0 ∨ cl149.slots.size ≤ ((3 : Int32)).toNatClampNeg) := inb_of As149 ⟨by decide, by decide⟩
    obtain ⟨T149, h149, X149, e149, W149, st149⟩ := stB X48 hx hZ e48 Ar149 (j := (3 : Int32)) hin149 (g := (mkF m 114 #[.val (.int p1), .val (.int p2), .val (.int p3), .val (.int p4), .val (.int v2), .val (.int v4), .val (.int v6), .val (.int v8), .val (.int v10), .val (.int (3 : Int32)), .val (.int v14), .val (.ref b16), .unset, .unset] [(.int (v2.toInt8.toInt32)), (.int (3 : Int32)), (.ref b16)])) rfl rfl (hb hby at_114)
    have pre150 : ∀ tq, Steps p.tables e below (T149.setTop (mkF m 115 #[.val (.int p1), .val (.int p2), .val (.int p3), .val (.int p4), .val (.int v2), .val (.int v4), .val (.int v6), .val (.int v8), .val (.int v10), .val (.int (3 : Int32)), .val (.int v14), .val (.ref b16), .unset, .unset] [])) tq → Steps p.tables e below (s₁.setTop (entryFrame m #[(.int p1), (.int p2), (.int p3), (.int p4)] maxLocals)) tq := fun tq kq => pre148 tq (st149 _ kq)
    have N149 := Fr.snoc X149 N48 g_b16
    have K149 : Keep h0 h149 [] := Keep.wr K48 W149 (Or.inr sz_b16)
    have f151 : Arv Z h149 b16 k16 .byte (8 : Int32) [(.int (nar .byte v14)), (.int (nar .byte v14)), (.int (nar .byte v14)), (.int (nar .byte (v2.toInt8.toInt32))), (.int (nar .byte v14)), (.int (nar .byte v14)), (.int (nar .byte v14)), (.int (nar .byte v14))] (.int (0 : Int32)) := Arv.set Ar149 Aq149 As149 An149 Ah149 Ag149 (fits_nar_byte _) W149 3 rfl (Nat.le_of_ble_eq_true rfl)
    have pre152 : ∀ tq, Steps p.tables e below (T149.setTop (mkF m 124 #[.val (.int p1), .val (.int p2), .val (.int p3), .val (.int p4), .val (.int v2), .val (.int v4), .val (.int v6), .val (.int v8), .val (.int v10), .val (.int (3 : Int32)), .val (.int v14), .val (.ref b16), .unset, .unset] [(.int (v4.toInt8.toInt32)), (.int (4 : Int32)), (.ref b16)])) tq → Steps p.tables e below (s₁.setTop (entryFrame m #[(.int p1), (.int p2), (.int p3), (.int p4)] maxLocals)) tq := by
      refine fun tq kq => pre150 tq ?_
      show Steps p.tables e below (T149.setTop (mkF m 115 #[.val (.int p1), .val (.int p2), .val (.int p3), .val (.int p4), .val (.int v2), .val (.int v4), .val (.int v6), .val (.int v8), .val (.int v10), .val (.int (3 : Int32)), .val (.int v14), .val (.ref b16), .unset, .unset] [])) _
      refine XS.aload X149.here hx rfl (hb hby at_115) rfl rfl ?_
      show Steps p.tables e below (T149.setTop (mkF m 117 #[.val (.int p1), .val (.int p2), .val (.int p3), .val (.int p4), .val (.int v2), .val (.int v4), .val (.int v6), .val (.int v8), .val (.int v10), .val (.int (3 : Int32)), .val (.int v14), .val (.ref b16), .unset, .unset] [(.ref b16)])) _
      refine XS.iload X149.here hx rfl (hb hby at_117) rfl ?_
      show Steps p.tables e below (T149.setTop (mkF m 119 #[.val (.int p1), .val (.int p2), .val (.int p3), .val (.int p4), .val (.int v2), .val (.int v4), .val (.int v6), .val (.int v8), .val (.int v10), .val (.int (3 : Int32)), .val (.int v14), .val (.ref b16), .unset, .unset] [(.int (3 : Int32)), (.ref b16)])) _
      refine XS.iconst X149.here hx rfl (hb hby at_119) ?_
      show Steps p.tables e below (T149.setTop (mkF m 120 #[.val (.int p1), .val (.int p2), .val (.int p3), .val (.int p4), .val (.int v2), .val (.int v4), .val (.int v6), .val (.int v8), .val (.int v10), .val (.int (3 : Int32)), .val (.int v14), .val (.ref b16), .unset, .unset] [(.int (1 : Int32)), (.int (3 : Int32)), (.ref b16)])) _
      refine XS.iadd X149.here hx rfl (hb hby at_120) rfl ?_
      show Steps p.tables e below (T149.setTop (mkF m 121 #[.val (.int p1), .val (.int p2), .val (.int p3), .val (.int p4), .val (.int v2), .val (.int v4), .val (.int v6), .val (.int v8), .val (.int v10), .val (.int (3 : Int32)), .val (.int v14), .val (.ref b16), .unset, .unset] [(.int (4 : Int32)), (.ref b16)])) _
      refine XS.iload X149.here hx rfl (hb hby at_121) rfl ?_
      show Steps p.tables e below (T149.setTop (mkF m 123 #[.val (.int p1), .val (.int p2), .val (.int p3), .val (.int p4), .val (.int v2), .val (.int v4), .val (.int v6), .val (.int v8), .val (.int v10), .val (.int (3 : Int32)), .val (.int v14), .val (.ref b16), .unset, .unset] [(.int v4), (.int (4 : Int32)), (.ref b16)])) _
      refine XS.i2b X149.here hx rfl (hb hby at_123) rfl ?_
      exact kq
    have Vc153 := f151
    obtain ⟨cl153, Ar153, Aq153, As153, An153, Ah153, Ag153⟩ := Vc153
    have hin153 : ¬ ((4 : Int32) < 0 ∨ cl153.slots.size ≤ ((4 : Int32)).toNatClampNeg) := inb_of As153 ⟨by decide, by decide⟩
    obtain ⟨T153, h153, X153, e153, W153, st153⟩ := stB X149 hx hZ e149 Ar153 (j := (4 : Int32)) hin153 (g := (mkF m 124 #[.val (.int p1), .val (.int p2), .val (.int p3), .val (.int p4), .val (.int v2), .val (.int v4), .val (.int v6), .val (.int v8), .val (.int v10), .val (.int (3 : Int32)), .val (.int v14), .val (.ref b16), .unset, .unset] [(.int (v4.toInt8.toInt32)), (.int (4 : Int32)), (.ref b16)])) rfl rfl (hb hby at_124)
    have pre154 : ∀ tq, Steps p.tables e below (T153.setTop (mkF m 125 #[.val (.int p1), .val (.int p2), .val (.int p3), .val (.int p4), .val (.int v2), .val (.int v4), .val (.int v6), .val (.int v8), .val (.int v10), .val (.int (3 : Int32)), .val (.int v14), .val (.ref b16), .unset, .unset] [])) tq → Steps p.tables e below (s₁.setTop (entryFrame m #[(.int p1), (.int p2), (.int p3), (.int p4)] maxLocals)) tq := fun tq kq => pre152 tq (st153 _ kq)
    have N153 := Fr.snoc X153 N149 g_b16
    have K153 : Keep h0 h153 [] := Keep.wr K149 W153 (Or.inr sz_b16)
    have f155 : Arv Z h153 b16 k16 .byte (8 : Int32) [(.int (nar .byte v14)), (.int (nar .byte v14)), (.int (nar .byte v14)), (.int (nar .byte (v2.toInt8.toInt32))), (.int (nar .byte (v4.toInt8.toInt32))), (.int (nar .byte v14)), (.int (nar .byte v14)), (.int (nar .byte v14))] (.int (0 : Int32)) := Arv.set Ar153 Aq153 As153 An153 Ah153 Ag153 (fits_nar_byte _) W153 4 rfl (Nat.le_of_ble_eq_true rfl)
    have pre156 : ∀ tq, Steps p.tables e below (T153.setTop (mkF m 134 #[.val (.int p1), .val (.int p2), .val (.int p3), .val (.int p4), .val (.int v2), .val (.int v4), .val (.int v6), .val (.int v8), .val (.int v10), .val (.int (3 : Int32)), .val (.int v14), .val (.ref b16), .unset, .unset] [(.int (v6.toInt8.toInt32)), (.int (5 : Int32)), (.ref b16)])) tq → Steps p.tables e below (s₁.setTop (entryFrame m #[(.int p1), (.int p2), (.int p3), (.int p4)] maxLocals)) tq := by
      refine fun tq kq => pre154 tq ?_
      show Steps p.tables e below (T153.setTop (mkF m 125 #[.val (.int p1), .val (.int p2), .val (.int p3), .val (.int p4), .val (.int v2), .val (.int v4), .val (.int v6), .val (.int v8), .val (.int v10), .val (.int (3 : Int32)), .val (.int v14), .val (.ref b16), .unset, .unset] [])) _
      refine XS.aload X153.here hx rfl (hb hby at_125) rfl rfl ?_
      show Steps p.tables e below (T153.setTop (mkF m 127 #[.val (.int p1), .val (.int p2), .val (.int p3), .val (.int p4), .val (.int v2), .val (.int v4), .val (.int v6), .val (.int v8), .val (.int v10), .val (.int (3 : Int32)), .val (.int v14), .val (.ref b16), .unset, .unset] [(.ref b16)])) _
      refine XS.iload X153.here hx rfl (hb hby at_127) rfl ?_
      show Steps p.tables e below (T153.setTop (mkF m 129 #[.val (.int p1), .val (.int p2), .val (.int p3), .val (.int p4), .val (.int v2), .val (.int v4), .val (.int v6), .val (.int v8), .val (.int v10), .val (.int (3 : Int32)), .val (.int v14), .val (.ref b16), .unset, .unset] [(.int (3 : Int32)), (.ref b16)])) _
      refine XS.iconst X153.here hx rfl (hb hby at_129) ?_
      show Steps p.tables e below (T153.setTop (mkF m 130 #[.val (.int p1), .val (.int p2), .val (.int p3), .val (.int p4), .val (.int v2), .val (.int v4), .val (.int v6), .val (.int v8), .val (.int v10), .val (.int (3 : Int32)), .val (.int v14), .val (.ref b16), .unset, .unset] [(.int (2 : Int32)), (.int (3 : Int32)), (.ref b16)])) _
      refine XS.iadd X153.here hx rfl (hb hby at_130) rfl ?_
      show Steps p.tables e below (T153.setTop (mkF m 131 #[.val (.int p1), .val (.int p2), .val (.int p3), .val (.int p4), .val (.int v2), .val (.int v4), .val (.int v6), .val (.int v8), .val (.int v10), .val (.int (3 : Int32)), .val (.int v14), .val (.ref b16), .unset, .unset] [(.int (5 : Int32)), (.ref b16)])) _
      refine XS.iload X153.here hx rfl (hb hby at_131) rfl ?_
      show Steps p.tables e below (T153.setTop (mkF m 133 #[.val (.int p1), .val (.int p2), .val (.int p3), .val (.int p4), .val (.int v2), .val (.int v4), .val (.int v6), .val (.int v8), .val (.int v10), .val (.int (3 : Int32)), .val (.int v14), .val (.ref b16), .unset, .unset] [(.int v6), (.int (5 : Int32)), (.ref b16)])) _
      refine XS.i2b X153.here hx rfl (hb hby at_133) rfl ?_
      exact kq
    have Vc157 := f155
    obtain ⟨cl157, Ar157, Aq157, As157, An157, Ah157, Ag157⟩ := Vc157
    have hin157 : ¬ ((5 : Int32) < 0 ∨ cl157.slots.size ≤ ((5 : Int32)).toNatClampNeg) := inb_of As157 ⟨by decide, by decide⟩
    obtain ⟨T157, h157, X157, e157, W157, st157⟩ := stB X153 hx hZ e153 Ar157 (j := (5 : Int32)) hin157 (g := (mkF m 134 #[.val (.int p1), .val (.int p2), .val (.int p3), .val (.int p4), .val (.int v2), .val (.int v4), .val (.int v6), .val (.int v8), .val (.int v10), .val (.int (3 : Int32)), .val (.int v14), .val (.ref b16), .unset, .unset] [(.int (v6.toInt8.toInt32)), (.int (5 : Int32)), (.ref b16)])) rfl rfl (hb hby at_134)
    have pre158 : ∀ tq, Steps p.tables e below (T157.setTop (mkF m 135 #[.val (.int p1), .val (.int p2), .val (.int p3), .val (.int p4), .val (.int v2), .val (.int v4), .val (.int v6), .val (.int v8), .val (.int v10), .val (.int (3 : Int32)), .val (.int v14), .val (.ref b16), .unset, .unset] [])) tq → Steps p.tables e below (s₁.setTop (entryFrame m #[(.int p1), (.int p2), (.int p3), (.int p4)] maxLocals)) tq := fun tq kq => pre156 tq (st157 _ kq)
    have N157 := Fr.snoc X157 N153 g_b16
    have K157 : Keep h0 h157 [] := Keep.wr K153 W157 (Or.inr sz_b16)
    have f159 : Arv Z h157 b16 k16 .byte (8 : Int32) [(.int (nar .byte v14)), (.int (nar .byte v14)), (.int (nar .byte v14)), (.int (nar .byte (v2.toInt8.toInt32))), (.int (nar .byte (v4.toInt8.toInt32))), (.int (nar .byte (v6.toInt8.toInt32))), (.int (nar .byte v14)), (.int (nar .byte v14))] (.int (0 : Int32)) := Arv.set Ar157 Aq157 As157 An157 Ah157 Ag157 (fits_nar_byte _) W157 5 rfl (Nat.le_of_ble_eq_true rfl)
    have pre160 : ∀ tq, Steps p.tables e below (T157.setTop (mkF m 144 #[.val (.int p1), .val (.int p2), .val (.int p3), .val (.int p4), .val (.int v2), .val (.int v4), .val (.int v6), .val (.int v8), .val (.int v10), .val (.int (3 : Int32)), .val (.int v14), .val (.ref b16), .unset, .unset] [(.int (v8.toInt8.toInt32)), (.int (6 : Int32)), (.ref b16)])) tq → Steps p.tables e below (s₁.setTop (entryFrame m #[(.int p1), (.int p2), (.int p3), (.int p4)] maxLocals)) tq := by
      refine fun tq kq => pre158 tq ?_
      show Steps p.tables e below (T157.setTop (mkF m 135 #[.val (.int p1), .val (.int p2), .val (.int p3), .val (.int p4), .val (.int v2), .val (.int v4), .val (.int v6), .val (.int v8), .val (.int v10), .val (.int (3 : Int32)), .val (.int v14), .val (.ref b16), .unset, .unset] [])) _
      refine XS.aload X157.here hx rfl (hb hby at_135) rfl rfl ?_
      show Steps p.tables e below (T157.setTop (mkF m 137 #[.val (.int p1), .val (.int p2), .val (.int p3), .val (.int p4), .val (.int v2), .val (.int v4), .val (.int v6), .val (.int v8), .val (.int v10), .val (.int (3 : Int32)), .val (.int v14), .val (.ref b16), .unset, .unset] [(.ref b16)])) _
      refine XS.iload X157.here hx rfl (hb hby at_137) rfl ?_
      show Steps p.tables e below (T157.setTop (mkF m 139 #[.val (.int p1), .val (.int p2), .val (.int p3), .val (.int p4), .val (.int v2), .val (.int v4), .val (.int v6), .val (.int v8), .val (.int v10), .val (.int (3 : Int32)), .val (.int v14), .val (.ref b16), .unset, .unset] [(.int (3 : Int32)), (.ref b16)])) _
      refine XS.iconst X157.here hx rfl (hb hby at_139) ?_
      show Steps p.tables e below (T157.setTop (mkF m 140 #[.val (.int p1), .val (.int p2), .val (.int p3), .val (.int p4), .val (.int v2), .val (.int v4), .val (.int v6), .val (.int v8), .val (.int v10), .val (.int (3 : Int32)), .val (.int v14), .val (.ref b16), .unset, .unset] [(.int (3 : Int32)), (.int (3 : Int32)), (.ref b16)])) _
      refine XS.iadd X157.here hx rfl (hb hby at_140) rfl ?_
      show Steps p.tables e below (T157.setTop (mkF m 141 #[.val (.int p1), .val (.int p2), .val (.int p3), .val (.int p4), .val (.int v2), .val (.int v4), .val (.int v6), .val (.int v8), .val (.int v10), .val (.int (3 : Int32)), .val (.int v14), .val (.ref b16), .unset, .unset] [(.int (6 : Int32)), (.ref b16)])) _
      refine XS.iload X157.here hx rfl (hb hby at_141) rfl ?_
      show Steps p.tables e below (T157.setTop (mkF m 143 #[.val (.int p1), .val (.int p2), .val (.int p3), .val (.int p4), .val (.int v2), .val (.int v4), .val (.int v6), .val (.int v8), .val (.int v10), .val (.int (3 : Int32)), .val (.int v14), .val (.ref b16), .unset, .unset] [(.int v8), (.int (6 : Int32)), (.ref b16)])) _
      refine XS.i2b X157.here hx rfl (hb hby at_143) rfl ?_
      exact kq
    have Vc161 := f159
    obtain ⟨cl161, Ar161, Aq161, As161, An161, Ah161, Ag161⟩ := Vc161
    have hin161 : ¬ ((6 : Int32) < 0 ∨ cl161.slots.size ≤ ((6 : Int32)).toNatClampNeg) := inb_of As161 ⟨by decide, by decide⟩
    obtain ⟨T161, h161, X161, e161, W161, st161⟩ := stB X157 hx hZ e157 Ar161 (j := (6 : Int32)) hin161 (g := (mkF m 144 #[.val (.int p1), .val (.int p2), .val (.int p3), .val (.int p4), .val (.int v2), .val (.int v4), .val (.int v6), .val (.int v8), .val (.int v10), .val (.int (3 : Int32)), .val (.int v14), .val (.ref b16), .unset, .unset] [(.int (v8.toInt8.toInt32)), (.int (6 : Int32)), (.ref b16)])) rfl rfl (hb hby at_144)
    have pre162 : ∀ tq, Steps p.tables e below (T161.setTop (mkF m 145 #[.val (.int p1), .val (.int p2), .val (.int p3), .val (.int p4), .val (.int v2), .val (.int v4), .val (.int v6), .val (.int v8), .val (.int v10), .val (.int (3 : Int32)), .val (.int v14), .val (.ref b16), .unset, .unset] [])) tq → Steps p.tables e below (s₁.setTop (entryFrame m #[(.int p1), (.int p2), (.int p3), (.int p4)] maxLocals)) tq := fun tq kq => pre160 tq (st161 _ kq)
    have N161 := Fr.snoc X161 N157 g_b16
    have K161 : Keep h0 h161 [] := Keep.wr K157 W161 (Or.inr sz_b16)
    have f163 : Arv Z h161 b16 k16 .byte (8 : Int32) [(.int (nar .byte v14)), (.int (nar .byte v14)), (.int (nar .byte v14)), (.int (nar .byte (v2.toInt8.toInt32))), (.int (nar .byte (v4.toInt8.toInt32))), (.int (nar .byte (v6.toInt8.toInt32))), (.int (nar .byte (v8.toInt8.toInt32))), (.int (nar .byte v14))] (.int (0 : Int32)) := Arv.set Ar161 Aq161 As161 An161 Ah161 Ag161 (fits_nar_byte _) W161 6 rfl (Nat.le_of_ble_eq_true rfl)
    have pre164 : ∀ tq, Steps p.tables e below (T161.setTop (mkF m 154 #[.val (.int p1), .val (.int p2), .val (.int p3), .val (.int p4), .val (.int v2), .val (.int v4), .val (.int v6), .val (.int v8), .val (.int v10), .val (.int (3 : Int32)), .val (.int v14), .val (.ref b16), .unset, .unset] [(.int (v10.toInt8.toInt32)), (.int (7 : Int32)), (.ref b16)])) tq → Steps p.tables e below (s₁.setTop (entryFrame m #[(.int p1), (.int p2), (.int p3), (.int p4)] maxLocals)) tq := by
      refine fun tq kq => pre162 tq ?_
      show Steps p.tables e below (T161.setTop (mkF m 145 #[.val (.int p1), .val (.int p2), .val (.int p3), .val (.int p4), .val (.int v2), .val (.int v4), .val (.int v6), .val (.int v8), .val (.int v10), .val (.int (3 : Int32)), .val (.int v14), .val (.ref b16), .unset, .unset] [])) _
      refine XS.aload X161.here hx rfl (hb hby at_145) rfl rfl ?_
      show Steps p.tables e below (T161.setTop (mkF m 147 #[.val (.int p1), .val (.int p2), .val (.int p3), .val (.int p4), .val (.int v2), .val (.int v4), .val (.int v6), .val (.int v8), .val (.int v10), .val (.int (3 : Int32)), .val (.int v14), .val (.ref b16), .unset, .unset] [(.ref b16)])) _
      refine XS.iload X161.here hx rfl (hb hby at_147) rfl ?_
      show Steps p.tables e below (T161.setTop (mkF m 149 #[.val (.int p1), .val (.int p2), .val (.int p3), .val (.int p4), .val (.int v2), .val (.int v4), .val (.int v6), .val (.int v8), .val (.int v10), .val (.int (3 : Int32)), .val (.int v14), .val (.ref b16), .unset, .unset] [(.int (3 : Int32)), (.ref b16)])) _
      refine XS.iconst X161.here hx rfl (hb hby at_149) ?_
      show Steps p.tables e below (T161.setTop (mkF m 150 #[.val (.int p1), .val (.int p2), .val (.int p3), .val (.int p4), .val (.int v2), .val (.int v4), .val (.int v6), .val (.int v8), .val (.int v10), .val (.int (3 : Int32)), .val (.int v14), .val (.ref b16), .unset, .unset] [(.int (4 : Int32)), (.int (3 : Int32)), (.ref b16)])) _
      refine XS.iadd X161.here hx rfl (hb hby at_150) rfl ?_
      show Steps p.tables e below (T161.setTop (mkF m 151 #[.val (.int p1), .val (.int p2), .val (.int p3), .val (.int p4), .val (.int v2), .val (.int v4), .val (.int v6), .val (.int v8), .val (.int v10), .val (.int (3 : Int32)), .val (.int v14), .val (.ref b16), .unset, .unset] [(.int (7 : Int32)), (.ref b16)])) _
      refine XS.iload X161.here hx rfl (hb hby at_151) rfl ?_
      show Steps p.tables e below (T161.setTop (mkF m 153 #[.val (.int p1), .val (.int p2), .val (.int p3), .val (.int p4), .val (.int v2), .val (.int v4), .val (.int v6), .val (.int v8), .val (.int v10), .val (.int (3 : Int32)), .val (.int v14), .val (.ref b16), .unset, .unset] [(.int v10), (.int (7 : Int32)), (.ref b16)])) _
      refine XS.i2b X161.here hx rfl (hb hby at_153) rfl ?_
      exact kq
    have Vc165 := f163
    obtain ⟨cl165, Ar165, Aq165, As165, An165, Ah165, Ag165⟩ := Vc165
    have hin165 : ¬ ((7 : Int32) < 0 ∨ cl165.slots.size ≤ ((7 : Int32)).toNatClampNeg) := inb_of As165 ⟨by decide, by decide⟩
    obtain ⟨T165, h165, X165, e165, W165, st165⟩ := stB X161 hx hZ e161 Ar165 (j := (7 : Int32)) hin165 (g := (mkF m 154 #[.val (.int p1), .val (.int p2), .val (.int p3), .val (.int p4), .val (.int v2), .val (.int v4), .val (.int v6), .val (.int v8), .val (.int v10), .val (.int (3 : Int32)), .val (.int v14), .val (.ref b16), .unset, .unset] [(.int (v10.toInt8.toInt32)), (.int (7 : Int32)), (.ref b16)])) rfl rfl (hb hby at_154)
    have pre166 : ∀ tq, Steps p.tables e below (T165.setTop (mkF m 155 #[.val (.int p1), .val (.int p2), .val (.int p3), .val (.int p4), .val (.int v2), .val (.int v4), .val (.int v6), .val (.int v8), .val (.int v10), .val (.int (3 : Int32)), .val (.int v14), .val (.ref b16), .unset, .unset] [])) tq → Steps p.tables e below (s₁.setTop (entryFrame m #[(.int p1), (.int p2), (.int p3), (.int p4)] maxLocals)) tq := fun tq kq => pre164 tq (st165 _ kq)
    have N165 := Fr.snoc X165 N161 g_b16
    have K165 : Keep h0 h165 [] := Keep.wr K161 W165 (Or.inr sz_b16)
    have f167 : Arv Z h165 b16 k16 .byte (8 : Int32) [(.int (nar .byte v14)), (.int (nar .byte v14)), (.int (nar .byte v14)), (.int (nar .byte (v2.toInt8.toInt32))), (.int (nar .byte (v4.toInt8.toInt32))), (.int (nar .byte (v6.toInt8.toInt32))), (.int (nar .byte (v8.toInt8.toInt32))), (.int (nar .byte (v10.toInt8.toInt32)))] (.int (0 : Int32)) := Arv.set Ar165 Aq165 As165 An165 Ah165 Ag165 (fits_nar_byte _) W165 7 rfl (Nat.le_of_ble_eq_true rfl)
    obtain ⟨v168, hj169, pre169⟩ : ∃ v168 : Int32, (((223 : Int32) < v2 ∧ (239 : Int32) < v2 ∧ v168 = (4 : Int32)) ∨ ((223 : Int32) < v2 ∧ ¬ ((239 : Int32) < v2) ∧ v168 = (3 : Int32)) ∨ (¬ ((223 : Int32) < v2) ∧ v168 = (2 : Int32))) ∧ (∀ tq, Steps p.tables e below (T165.setTop (mkF m 180 #[.val (.int p1), .val (.int p2), .val (.int p3), .val (.int p4), .val (.int v2), .val (.int v4), .val (.int v6), .val (.int v8), .val (.int v10), .val (.int (3 : Int32)), .val (.int v14), .val (.ref b16), .unset, .unset] [(.int v168)])) tq → Steps p.tables e below (s₁.setTop (entryFrame m #[(.int p1), (.int p2), (.int p3), (.int p4)] maxLocals)) tq) := by
      by_cases hb0_160 : (223 : Int32) < v2
      · skip
        by_cases hb1_172 : (239 : Int32) < v2
        · skip
          refine ⟨(4 : Int32), Or.inl (⟨hb0_160, hb1_172, rfl⟩), fun tq kq => pre166 tq ?_⟩
          show Steps p.tables e below (T165.setTop (mkF m 155 #[.val (.int p1), .val (.int p2), .val (.int p3), .val (.int p4), .val (.int v2), .val (.int v4), .val (.int v6), .val (.int v8), .val (.int v10), .val (.int (3 : Int32)), .val (.int v14), .val (.ref b16), .unset, .unset] [])) _
          refine XS.iload X165.here hx rfl (hb hby at_155) rfl ?_
          show Steps p.tables e below (T165.setTop (mkF m 157 #[.val (.int p1), .val (.int p2), .val (.int p3), .val (.int p4), .val (.int v2), .val (.int v4), .val (.int v6), .val (.int v8), .val (.int v10), .val (.int (3 : Int32)), .val (.int v14), .val (.ref b16), .unset, .unset] [(.int v2)])) _
          refine XS.sipush X165.here hx rfl (hb hby at_157) ?_
          show Steps p.tables e below (T165.setTop (mkF m 160 #[.val (.int p1), .val (.int p2), .val (.int p3), .val (.int p4), .val (.int v2), .val (.int v4), .val (.int v6), .val (.int v8), .val (.int v10), .val (.int (3 : Int32)), .val (.int v14), .val (.ref b16), .unset, .unset] [(.int (223 : Int32)), (.int v2)])) _
          refine XS.icmpYes X165.here hx rfl (pc0 := 160) (pc' := 167) rfl (hb hby at_160) rfl (tlt hb0_160).2.2.1 (by decide) (by decide) ?_
          show Steps p.tables e below (T165.setTop (mkF m 167 #[.val (.int p1), .val (.int p2), .val (.int p3), .val (.int p4), .val (.int v2), .val (.int v4), .val (.int v6), .val (.int v8), .val (.int v10), .val (.int (3 : Int32)), .val (.int v14), .val (.ref b16), .unset, .unset] [])) _
          refine XS.iload X165.here hx rfl (hb hby at_167) rfl ?_
          show Steps p.tables e below (T165.setTop (mkF m 169 #[.val (.int p1), .val (.int p2), .val (.int p3), .val (.int p4), .val (.int v2), .val (.int v4), .val (.int v6), .val (.int v8), .val (.int v10), .val (.int (3 : Int32)), .val (.int v14), .val (.ref b16), .unset, .unset] [(.int v2)])) _
          refine XS.sipush X165.here hx rfl (hb hby at_169) ?_
          show Steps p.tables e below (T165.setTop (mkF m 172 #[.val (.int p1), .val (.int p2), .val (.int p3), .val (.int p4), .val (.int v2), .val (.int v4), .val (.int v6), .val (.int v8), .val (.int v10), .val (.int (3 : Int32)), .val (.int v14), .val (.ref b16), .unset, .unset] [(.int (239 : Int32)), (.int v2)])) _
          refine XS.icmpYes X165.here hx rfl (pc0 := 172) (pc' := 179) rfl (hb hby at_172) rfl (tlt hb1_172).2.2.1 (by decide) (by decide) ?_
          show Steps p.tables e below (T165.setTop (mkF m 179 #[.val (.int p1), .val (.int p2), .val (.int p3), .val (.int p4), .val (.int v2), .val (.int v4), .val (.int v6), .val (.int v8), .val (.int v10), .val (.int (3 : Int32)), .val (.int v14), .val (.ref b16), .unset, .unset] [])) _
          refine XS.iconst X165.here hx rfl (hb hby at_179) ?_
          exact kq
        · skip
          refine ⟨(3 : Int32), Or.inr (Or.inl (⟨hb0_160, hb1_172, rfl⟩)), fun tq kq => pre166 tq ?_⟩
          show Steps p.tables e below (T165.setTop (mkF m 155 #[.val (.int p1), .val (.int p2), .val (.int p3), .val (.int p4), .val (.int v2), .val (.int v4), .val (.int v6), .val (.int v8), .val (.int v10), .val (.int (3 : Int32)), .val (.int v14), .val (.ref b16), .unset, .unset] [])) _
          refine XS.iload X165.here hx rfl (hb hby at_155) rfl ?_
          show Steps p.tables e below (T165.setTop (mkF m 157 #[.val (.int p1), .val (.int p2), .val (.int p3), .val (.int p4), .val (.int v2), .val (.int v4), .val (.int v6), .val (.int v8), .val (.int v10), .val (.int (3 : Int32)), .val (.int v14), .val (.ref b16), .unset, .unset] [(.int v2)])) _
          refine XS.sipush X165.here hx rfl (hb hby at_157) ?_
          show Steps p.tables e below (T165.setTop (mkF m 160 #[.val (.int p1), .val (.int p2), .val (.int p3), .val (.int p4), .val (.int v2), .val (.int v4), .val (.int v6), .val (.int v8), .val (.int v10), .val (.int (3 : Int32)), .val (.int v14), .val (.ref b16), .unset, .unset] [(.int (223 : Int32)), (.int v2)])) _
          refine XS.icmpYes X165.here hx rfl (pc0 := 160) (pc' := 167) rfl (hb hby at_160) rfl (tlt hb0_160).2.2.1 (by decide) (by decide) ?_
          show Steps p.tables e below (T165.setTop (mkF m 167 #[.val (.int p1), .val (.int p2), .val (.int p3), .val (.int p4), .val (.int v2), .val (.int v4), .val (.int v6), .val (.int v8), .val (.int v10), .val (.int (3 : Int32)), .val (.int v14), .val (.ref b16), .unset, .unset] [])) _
          refine XS.iload X165.here hx rfl (hb hby at_167) rfl ?_
          show Steps p.tables e below (T165.setTop (mkF m 169 #[.val (.int p1), .val (.int p2), .val (.int p3), .val (.int p4), .val (.int v2), .val (.int v4), .val (.int v6), .val (.int v8), .val (.int v10), .val (.int (3 : Int32)), .val (.int v14), .val (.ref b16), .unset, .unset] [(.int v2)])) _
          refine XS.sipush X165.here hx rfl (hb hby at_169) ?_
          show Steps p.tables e below (T165.setTop (mkF m 172 #[.val (.int p1), .val (.int p2), .val (.int p3), .val (.int p4), .val (.int v2), .val (.int v4), .val (.int v6), .val (.int v8), .val (.int v10), .val (.int (3 : Int32)), .val (.int v14), .val (.ref b16), .unset, .unset] [(.int (239 : Int32)), (.int v2)])) _
          refine XS.icmpNo X165.here hx rfl (hb hby at_172) rfl (flt hb1_172).2.2.1 ?_
          show Steps p.tables e below (T165.setTop (mkF m 175 #[.val (.int p1), .val (.int p2), .val (.int p3), .val (.int p4), .val (.int v2), .val (.int v4), .val (.int v6), .val (.int v8), .val (.int v10), .val (.int (3 : Int32)), .val (.int v14), .val (.ref b16), .unset, .unset] [])) _
          refine XS.iconst X165.here hx rfl (hb hby at_175) ?_
          show Steps p.tables e below (T165.setTop (mkF m 176 #[.val (.int p1), .val (.int p2), .val (.int p3), .val (.int p4), .val (.int v2), .val (.int v4), .val (.int v6), .val (.int v8), .val (.int v10), .val (.int (3 : Int32)), .val (.int v14), .val (.ref b16), .unset, .unset] [(.int (3 : Int32))])) _
          refine XS.goto X165.here hx rfl (pc0 := 176) (pc' := 180) rfl (hb hby at_176) (by decide) (by decide) ?_
          exact kq
      · skip
        refine ⟨(2 : Int32), Or.inr (Or.inr (⟨hb0_160, rfl⟩)), fun tq kq => pre166 tq ?_⟩
        show Steps p.tables e below (T165.setTop (mkF m 155 #[.val (.int p1), .val (.int p2), .val (.int p3), .val (.int p4), .val (.int v2), .val (.int v4), .val (.int v6), .val (.int v8), .val (.int v10), .val (.int (3 : Int32)), .val (.int v14), .val (.ref b16), .unset, .unset] [])) _
        refine XS.iload X165.here hx rfl (hb hby at_155) rfl ?_
        show Steps p.tables e below (T165.setTop (mkF m 157 #[.val (.int p1), .val (.int p2), .val (.int p3), .val (.int p4), .val (.int v2), .val (.int v4), .val (.int v6), .val (.int v8), .val (.int v10), .val (.int (3 : Int32)), .val (.int v14), .val (.ref b16), .unset, .unset] [(.int v2)])) _
        refine XS.sipush X165.here hx rfl (hb hby at_157) ?_
        show Steps p.tables e below (T165.setTop (mkF m 160 #[.val (.int p1), .val (.int p2), .val (.int p3), .val (.int p4), .val (.int v2), .val (.int v4), .val (.int v6), .val (.int v8), .val (.int v10), .val (.int (3 : Int32)), .val (.int v14), .val (.ref b16), .unset, .unset] [(.int (223 : Int32)), (.int v2)])) _
        refine XS.icmpNo X165.here hx rfl (hb hby at_160) rfl (flt hb0_160).2.2.1 ?_
        show Steps p.tables e below (T165.setTop (mkF m 163 #[.val (.int p1), .val (.int p2), .val (.int p3), .val (.int p4), .val (.int v2), .val (.int v4), .val (.int v6), .val (.int v8), .val (.int v10), .val (.int (3 : Int32)), .val (.int v14), .val (.ref b16), .unset, .unset] [])) _
        refine XS.iconst X165.here hx rfl (hb hby at_163) ?_
        show Steps p.tables e below (T165.setTop (mkF m 164 #[.val (.int p1), .val (.int p2), .val (.int p3), .val (.int p4), .val (.int v2), .val (.int v4), .val (.int v6), .val (.int v8), .val (.int v10), .val (.int (3 : Int32)), .val (.int v14), .val (.ref b16), .unset, .unset] [(.int (2 : Int32))])) _
        refine XS.goto X165.here hx rfl (pc0 := 164) (pc' := 180) rfl (hb hby at_164) (by decide) (by decide) ?_
        exact kq
    have pre170 : ∀ tq, Steps p.tables e below (T165.setTop (mkF m 192 #[.val (.int p1), .val (.int p2), .val (.int p3), .val (.int p4), .val (.int v2), .val (.int v4), .val (.int v6), .val (.int v8), .val (.int v10), .val (.int (3 : Int32)), .val (.int v14), .val (.ref b16), .val (.int v168), .unset] [(.int v8), (.int v6), (.int v4), (.int v168), (.int v2)])) tq → Steps p.tables e below (s₁.setTop (entryFrame m #[(.int p1), (.int p2), (.int p3), (.int p4)] maxLocals)) tq := by
      refine fun tq kq => pre169 tq ?_
      show Steps p.tables e below (T165.setTop (mkF m 180 #[.val (.int p1), .val (.int p2), .val (.int p3), .val (.int p4), .val (.int v2), .val (.int v4), .val (.int v6), .val (.int v8), .val (.int v10), .val (.int (3 : Int32)), .val (.int v14), .val (.ref b16), .unset, .unset] [(.int v168)])) _
      refine XS.istore X165.here hx rfl (hb hby at_180) rfl (l' := #[.val (.int p1), .val (.int p2), .val (.int p3), .val (.int p4), .val (.int v2), .val (.int v4), .val (.int v6), .val (.int v8), .val (.int v10), .val (.int (3 : Int32)), .val (.int v14), .val (.ref b16), .val (.int v168), .unset]) rfl ?_
      show Steps p.tables e below (T165.setTop (mkF m 182 #[.val (.int p1), .val (.int p2), .val (.int p3), .val (.int p4), .val (.int v2), .val (.int v4), .val (.int v6), .val (.int v8), .val (.int v10), .val (.int (3 : Int32)), .val (.int v14), .val (.ref b16), .val (.int v168), .unset] [])) _
      refine XS.iload X165.here hx rfl (hb hby at_182) rfl ?_
      show Steps p.tables e below (T165.setTop (mkF m 184 #[.val (.int p1), .val (.int p2), .val (.int p3), .val (.int p4), .val (.int v2), .val (.int v4), .val (.int v6), .val (.int v8), .val (.int v10), .val (.int (3 : Int32)), .val (.int v14), .val (.ref b16), .val (.int v168), .unset] [(.int v2)])) _
      refine XS.iload X165.here hx rfl (hb hby at_184) rfl ?_
      show Steps p.tables e below (T165.setTop (mkF m 186 #[.val (.int p1), .val (.int p2), .val (.int p3), .val (.int p4), .val (.int v2), .val (.int v4), .val (.int v6), .val (.int v8), .val (.int v10), .val (.int (3 : Int32)), .val (.int v14), .val (.ref b16), .val (.int v168), .unset] [(.int v168), (.int v2)])) _
      refine XS.iload X165.here hx rfl (hb hby at_186) rfl ?_
      show Steps p.tables e below (T165.setTop (mkF m 188 #[.val (.int p1), .val (.int p2), .val (.int p3), .val (.int p4), .val (.int v2), .val (.int v4), .val (.int v6), .val (.int v8), .val (.int v10), .val (.int (3 : Int32)), .val (.int v14), .val (.ref b16), .val (.int v168), .unset] [(.int v4), (.int v168), (.int v2)])) _
      refine XS.iload X165.here hx rfl (hb hby at_188) rfl ?_
      show Steps p.tables e below (T165.setTop (mkF m 190 #[.val (.int p1), .val (.int p2), .val (.int p3), .val (.int p4), .val (.int v2), .val (.int v4), .val (.int v6), .val (.int v8), .val (.int v10), .val (.int (3 : Int32)), .val (.int v14), .val (.ref b16), .val (.int v168), .unset] [(.int v6), (.int v4), (.int v168), (.int v2)])) _
      refine XS.iload X165.here hx rfl (hb hby at_190) rfl ?_
      exact kq
    have Z171 : n0 ≤ h165.size := (Nat.le_trans (Nat.le_trans (Nat.le_trans (Nat.le_trans (Nat.le_trans (Nat.le_trans (Nat.le_trans (Nat.le_trans (Nat.le_trans (Nat.le_trans (Nat.le_trans (Nat.le_trans (Nat.le_trans (Nat.le_trans Z0 E16.1) (Keep.of_wr W20).1) (Keep.of_wr W24).1) (Keep.of_wr W28).1) (Keep.of_wr W32).1) (Keep.of_wr W36).1) (Keep.of_wr W40).1) (Keep.of_wr W44).1) (Keep.of_wr W48).1) (Keep.of_wr W149).1) (Keep.of_wr W153).1) (Keep.of_wr W157).1) (Keep.of_wr W161).1) (Keep.of_wr W165).1)
    obtain ⟨_, _, ⟨T171, L171, k171, n171⟩, -, X171, ⟨Lc171, hQ171, l171, y171, z171⟩, st171⟩ := Jvm.LawKit.callS X165 hx (y := (⟨"com/example/partwise/partwise/storage/Utf8ContinuesSequencePinLaw", "expected", "(IIIII)Z"⟩ : MethodName)) hown (mvT hZ (hw _ (List.mem_of_getElem? (i := 2) rfl))) (mvT hZ (hw _ (List.mem_of_getElem? (i := 3) rfl))) (mvT hZ (hw _ (List.mem_of_getElem? (i := 4) rfl))) (mvT hZ (hw _ (List.mem_of_getElem? (i := 5) rfl))) (by decide) (backOf (W := 0) (rm1 l Z a0 hw [] v2 v168 v4 v6 v8  h165 n0 Z171 (by simp only [Int32.lt_iff_toInt_lt, ← Int32.toInt_inj, Int32.reduceToInt] at hj169 ⊢; omega) (⟨hb5, hb6, hb7⟩)) hZ (hw _ (List.mem_of_getElem? (i := 5) rfl)) (hw _ (List.mem_of_getElem? (i := 4) rfl)) (by decide) (by decide)) (g := (mkF m 192 #[.val (.int p1), .val (.int p2), .val (.int p3), .val (.int p4), .val (.int v2), .val (.int v4), .val (.int v6), .val (.int v8), .val (.int v10), .val (.int (3 : Int32)), .val (.int v14), .val (.ref b16), .val (.int v168), .unset] [(.int v8), (.int v6), (.int v4), (.int v168), (.int v2)])) rfl (by rw [hml]; rfl) (argsL := [(.int v2), (.int v168), (.int v4), (.int v6), (.int v8)]) (rest := []) (lenOf pd0_0 rfl) rfl (by show 2 * 0 + _ ≤ _; exact Nat.le_of_eq rfl) (hb hby at_192) (fun _ _ => ⟨rfl, e165, (by decide : (0 + 1) + 0 ≤ _), (by decide : (0 + 8) + 0 ≤ _)⟩)
    dsimp only [Pt.U, Pt.locs, Pt.cells, Pt.slots] at X171 l171 y171 z171 st171 hQ171
    subst l171 y171 z171
    obtain ⟨r172, rfl, Nq171, ehq171, hq171⟩ := hQ171
    have N171 := Fr.app N165 Nq171
    have pre173 : ∀ tq, Steps p.tables e below (T171.setTop (mkF m 195 #[.val (.int p1), .val (.int p2), .val (.int p3), .val (.int p4), .val (.int v2), .val (.int v4), .val (.int v6), .val (.int v8), .val (.int v10), .val (.int (3 : Int32)), .val (.int v14), .val (.ref b16), .val (.int v168), .unset] [(.int r172)])) tq → Steps p.tables e below (s₁.setTop (entryFrame m #[(.int p1), (.int p2), (.int p3), (.int p4)] maxLocals)) tq := fun tq kq => pre170 tq (st171 _ kq)
    have pre174 : ∀ tq, Steps p.tables e below (T171.setTop (mkF m 203 #[.val (.int p1), .val (.int p2), .val (.int p3), .val (.int p4), .val (.int v2), .val (.int v4), .val (.int v6), .val (.int v8), .val (.int v10), .val (.int (3 : Int32)), .val (.int v14), .val (.ref b16), .val (.int v168), .val (.int r172)] [(.int v168), (.int (3 : Int32)), (.ref b16)])) tq → Steps p.tables e below (s₁.setTop (entryFrame m #[(.int p1), (.int p2), (.int p3), (.int p4)] maxLocals)) tq := by
      refine fun tq kq => pre173 tq ?_
      show Steps p.tables e below (T171.setTop (mkF m 195 #[.val (.int p1), .val (.int p2), .val (.int p3), .val (.int p4), .val (.int v2), .val (.int v4), .val (.int v6), .val (.int v8), .val (.int v10), .val (.int (3 : Int32)), .val (.int v14), .val (.ref b16), .val (.int v168), .unset] [(.int r172)])) _
      refine XS.istore X171.here hx rfl (hb hby at_195) rfl (l' := #[.val (.int p1), .val (.int p2), .val (.int p3), .val (.int p4), .val (.int v2), .val (.int v4), .val (.int v6), .val (.int v8), .val (.int v10), .val (.int (3 : Int32)), .val (.int v14), .val (.ref b16), .val (.int v168), .val (.int r172)]) rfl ?_
      show Steps p.tables e below (T171.setTop (mkF m 197 #[.val (.int p1), .val (.int p2), .val (.int p3), .val (.int p4), .val (.int v2), .val (.int v4), .val (.int v6), .val (.int v8), .val (.int v10), .val (.int (3 : Int32)), .val (.int v14), .val (.ref b16), .val (.int v168), .val (.int r172)] [])) _
      refine XS.aload X171.here hx rfl (hb hby at_197) rfl rfl ?_
      show Steps p.tables e below (T171.setTop (mkF m 199 #[.val (.int p1), .val (.int p2), .val (.int p3), .val (.int p4), .val (.int v2), .val (.int v4), .val (.int v6), .val (.int v8), .val (.int v10), .val (.int (3 : Int32)), .val (.int v14), .val (.ref b16), .val (.int v168), .val (.int r172)] [(.ref b16)])) _
      refine XS.iload X171.here hx rfl (hb hby at_199) rfl ?_
      show Steps p.tables e below (T171.setTop (mkF m 201 #[.val (.int p1), .val (.int p2), .val (.int p3), .val (.int p4), .val (.int v2), .val (.int v4), .val (.int v6), .val (.int v8), .val (.int v10), .val (.int (3 : Int32)), .val (.int v14), .val (.ref b16), .val (.int v168), .val (.int r172)] [(.int (3 : Int32)), (.ref b16)])) _
      refine XS.iload X171.here hx rfl (hb hby at_201) rfl ?_
      exact kq
    have Z175 : n0 ≤ h165.size := (Nat.le_trans (Nat.le_trans (Nat.le_trans (Nat.le_trans (Nat.le_trans (Nat.le_trans (Nat.le_trans (Nat.le_trans (Nat.le_trans (Nat.le_trans (Nat.le_trans (Nat.le_trans (Nat.le_trans (Nat.le_trans Z0 E16.1) (Keep.of_wr W20).1) (Keep.of_wr W24).1) (Keep.of_wr W28).1) (Keep.of_wr W32).1) (Keep.of_wr W36).1) (Keep.of_wr W40).1) (Keep.of_wr W44).1) (Keep.of_wr W48).1) (Keep.of_wr W149).1) (Keep.of_wr W153).1) (Keep.of_wr W157).1) (Keep.of_wr W161).1) (Keep.of_wr W165).1)
    obtain ⟨_, _, ⟨T175, L175, k175, n175⟩, -, X175, ⟨Lc175, hQ175, l175, y175, z175⟩, st175⟩ := Jvm.LawKit.callS X171 hx (y := (⟨"com/example/partwise/partwise/storage/Utf8", "continuesSequence", "([BII)Z"⟩ : MethodName)) hown (mvT hZ (hw _ (List.mem_of_getElem? (i := 9) rfl))) (mvT hZ (hw _ (List.mem_of_getElem? (i := 10) rfl))) (mvT hZ (hw _ (List.mem_of_getElem? (i := 11) rfl))) (mvT hZ (hw _ (List.mem_of_getElem? (i := 12) rfl))) (by decide) (backOf (W := 0) (rm3 l Z a0 hw [] b16 (3 : Int32) v168 k16 [(.int (nar .byte v14)), (.int (nar .byte v14)), (.int (nar .byte v14)), (.int (nar .byte (v2.toInt8.toInt32))), (.int (nar .byte (v4.toInt8.toInt32))), (.int (nar .byte (v6.toInt8.toInt32))), (.int (nar .byte (v8.toInt8.toInt32))), (.int (nar .byte (v10.toInt8.toInt32)))] (.int (0 : Int32)) (nar .byte (v2.toInt8.toInt32)) (nar .byte (v4.toInt8.toInt32)) (nar .byte (v6.toInt8.toInt32)) (nar .byte (v8.toInt8.toInt32)) h165 n0 Z175 f167 (by decide) (by simp only [Int32.lt_iff_toInt_lt, ← Int32.toInt_inj, Int32.reduceToInt] at hj169 ⊢; omega) (rfl) (rfl) (rfl) (rfl)) hZ (hw _ (List.mem_of_getElem? (i := 12) rfl)) (hw _ (List.mem_of_getElem? (i := 11) rfl)) (by decide) (by decide)) (g := (mkF m 203 #[.val (.int p1), .val (.int p2), .val (.int p3), .val (.int p4), .val (.int v2), .val (.int v4), .val (.int v6), .val (.int v8), .val (.int v10), .val (.int (3 : Int32)), .val (.int v14), .val (.ref b16), .val (.int v168), .val (.int r172)] [(.int v168), (.int (3 : Int32)), (.ref b16)])) rfl (by rw [hml]; rfl) (argsL := [(.ref b16), (.int (3 : Int32)), (.int v168)]) (rest := []) (lenOf pd0_1 rfl) rfl (by show 2 * 0 + _ ≤ _; exact Nat.le_of_eq rfl) (hb hby at_203) (fun _ _ => ⟨rfl, ehq171, (by decide : ((0 + 1) + 0) + 0 ≤ _), (by decide : ((0 + 8) + 0) + 0 ≤ _)⟩)
    dsimp only [Pt.U, Pt.locs, Pt.cells, Pt.slots] at X175 l175 y175 z175 st175 hQ175
    subst l175 y175 z175
    obtain ⟨r176, rfl, Nq175, ehq175, hq175⟩ := hQ175
    have N175 := Fr.app N171 Nq175
    have pre177 : ∀ tq, Steps p.tables e below (T175.setTop (mkF m 206 #[.val (.int p1), .val (.int p2), .val (.int p3), .val (.int p4), .val (.int v2), .val (.int v4), .val (.int v6), .val (.int v8), .val (.int v10), .val (.int (3 : Int32)), .val (.int v14), .val (.ref b16), .val (.int v168), .val (.int r172)] [(.int r176)])) tq → Steps p.tables e below (s₁.setTop (entryFrame m #[(.int p1), (.int p2), (.int p3), (.int p4)] maxLocals)) tq := fun tq kq => pre174 tq (st175 _ kq)
    obtain ⟨v178, hj179, pre179⟩ : ∃ v178 : Int32, ((r176 = r172 ∧ v178 = (1 : Int32)) ∨ (¬ (r176 = r172) ∧ v178 = (0 : Int32))) ∧ (∀ tq, Steps p.tables e below (T175.setTop (mkF m 216 #[.val (.int p1), .val (.int p2), .val (.int p3), .val (.int p4), .val (.int v2), .val (.int v4), .val (.int v6), .val (.int v8), .val (.int v10), .val (.int (3 : Int32)), .val (.int v14), .val (.ref b16), .val (.int v168), .val (.int r172)] [(.int v178)])) tq → Steps p.tables e below (s₁.setTop (entryFrame m #[(.int p1), (.int p2), (.int p3), (.int p4)] maxLocals)) tq) := by
      by_cases hb0_208 : r176 = r172
      · skip
        refine ⟨(1 : Int32), Or.inl (⟨hb0_208, rfl⟩), fun tq kq => pre177 tq ?_⟩
        show Steps p.tables e below (T175.setTop (mkF m 206 #[.val (.int p1), .val (.int p2), .val (.int p3), .val (.int p4), .val (.int v2), .val (.int v4), .val (.int v6), .val (.int v8), .val (.int v10), .val (.int (3 : Int32)), .val (.int v14), .val (.ref b16), .val (.int v168), .val (.int r172)] [(.int r176)])) _
        refine XS.iload X175.here hx rfl (hb hby at_206) rfl ?_
        show Steps p.tables e below (T175.setTop (mkF m 208 #[.val (.int p1), .val (.int p2), .val (.int p3), .val (.int p4), .val (.int v2), .val (.int v4), .val (.int v6), .val (.int v8), .val (.int v10), .val (.int (3 : Int32)), .val (.int v14), .val (.ref b16), .val (.int v168), .val (.int r172)] [(.int r172), (.int r176)])) _
        refine XS.icmpNo X175.here hx rfl (hb hby at_208) rfl (teq hb0_208).2 ?_
        show Steps p.tables e below (T175.setTop (mkF m 211 #[.val (.int p1), .val (.int p2), .val (.int p3), .val (.int p4), .val (.int v2), .val (.int v4), .val (.int v6), .val (.int v8), .val (.int v10), .val (.int (3 : Int32)), .val (.int v14), .val (.ref b16), .val (.int v168), .val (.int r172)] [])) _
        refine XS.iconst X175.here hx rfl (hb hby at_211) ?_
        show Steps p.tables e below (T175.setTop (mkF m 212 #[.val (.int p1), .val (.int p2), .val (.int p3), .val (.int p4), .val (.int v2), .val (.int v4), .val (.int v6), .val (.int v8), .val (.int v10), .val (.int (3 : Int32)), .val (.int v14), .val (.ref b16), .val (.int v168), .val (.int r172)] [(.int (1 : Int32))])) _
        refine XS.goto X175.here hx rfl (pc0 := 212) (pc' := 216) rfl (hb hby at_212) (by decide) (by decide) ?_
        exact kq
      · skip
        refine ⟨(0 : Int32), Or.inr (⟨hb0_208, rfl⟩), fun tq kq => pre177 tq ?_⟩
        show Steps p.tables e below (T175.setTop (mkF m 206 #[.val (.int p1), .val (.int p2), .val (.int p3), .val (.int p4), .val (.int v2), .val (.int v4), .val (.int v6), .val (.int v8), .val (.int v10), .val (.int (3 : Int32)), .val (.int v14), .val (.ref b16), .val (.int v168), .val (.int r172)] [(.int r176)])) _
        refine XS.iload X175.here hx rfl (hb hby at_206) rfl ?_
        show Steps p.tables e below (T175.setTop (mkF m 208 #[.val (.int p1), .val (.int p2), .val (.int p3), .val (.int p4), .val (.int v2), .val (.int v4), .val (.int v6), .val (.int v8), .val (.int v10), .val (.int (3 : Int32)), .val (.int v14), .val (.ref b16), .val (.int v168), .val (.int r172)] [(.int r172), (.int r176)])) _
        refine XS.icmpYes X175.here hx rfl (pc0 := 208) (pc' := 215) rfl (hb hby at_208) rfl (feq hb0_208).2 (by decide) (by decide) ?_
        show Steps p.tables e below (T175.setTop (mkF m 215 #[.val (.int p1), .val (.int p2), .val (.int p3), .val (.int p4), .val (.int v2), .val (.int v4), .val (.int v6), .val (.int v8), .val (.int v10), .val (.int (3 : Int32)), .val (.int v14), .val (.ref b16), .val (.int v168), .val (.int r172)] [])) _
        refine XS.iconst X175.here hx rfl (hb hby at_215) ?_
        exact kq
    have hfin : v178 = 1 := by
      have yb4 := own_byte v2 (by omega) (by omega)
      have yb5 := own_byte v4 (by omega) (by omega)
      have yb6 := own_byte v6 (by omega) (by omega)
      have yb7 := own_byte v8 (by omega) (by omega)
      rw [yb4, yb5, yb6, yb7] at hq175
      simp only [Int32.lt_iff_toInt_lt, ← Int32.toInt_inj, Int32.reduceToInt, true_and, and_true, false_and, and_false, or_false, false_or, not_true_eq_false, not_false_eq_true, true_implies, false_implies] at hq171 hq175 hj169 hj179 ⊢ <;> omega
    subst hfin
    obtain ⟨fs, hr, hrun, hended, hW, hsame⟩ := X175.leave (v := some (.int (1 : Int32))) (fun h => by rw [Bd.returns] at h; cases h)
    refine ⟨_, _, pre179 _ ?_, hrun, hended, _, _, rfl, ?_, ⟨_, rfl⟩, hW, hsame.mono (by decide) (by decide)⟩
    · skip
      show Steps p.tables e below (T175.setTop (mkF m 216 #[.val (.int p1), .val (.int p2), .val (.int p3), .val (.int p4), .val (.int v2), .val (.int v4), .val (.int v6), .val (.int v8), .val (.int v10), .val (.int (3 : Int32)), .val (.int v14), .val (.ref b16), .val (.int v168), .val (.int r172)] [(.int (1 : Int32))])) _
      exact retN X175 hx (t := .boolean) Bd.returns (by simp) (hb hby at_216) hr
    · show Q0 Z p1 p2 p3 p4 h0 n0 _ T175.heap _
      rw [ehq175]
      exact ⟨rfl, N175⟩
set_option maxRecDepth 65536 in
set_option maxHeartbeats 40000000 in
theorem comes_1 {Post : Tables → Env → Array Value → State → Outcome → State → Prop} (hpost : ∀ tb e args s v u, (limb_1_1.after args s (.returned v) u = true ∧ limb_1_2.after args s (.returned v) u = true ∧ True) → FrameEnd s (.returned v) u (Jvm.fieldLocs frame_1_writes args s ++ Jvm.arrayLocs frame_1_arrays args s ++ Jvm.staticLocs frame_1_statics s) 16 128 → Post tb e args s (.returned v) u) :
    ArmFor flags0 classFile x code maxLocals ret World_1 tables_1 room_1 Calls_1 rest_1 Pre_1 Post := by
  intro l hfl _ _ p e ha hc hk s m args below hf hA hF happ hP
  obtain ⟨hcalls, hrest, hpre⟩ := hP
  obtain ⟨-, -, -, hnamed, -, -, -, hat⟩ := (Spec.applies_iff hf).mp happ
  obtain ⟨hg, hn⟩ := and_e (Cond.before_iff.mp (show (Jvm.Cond.and given_1 narrow_1).before args s = true from hpre))
  obtain ⟨k0, g0⟩ := and_e hg
  obtain ⟨k1, g1⟩ := and_e g0
  obtain ⟨k2, g2⟩ := and_e g1
  obtain ⟨k3, g3⟩ := and_e g2
  obtain ⟨w0, w1, w2, w3, rfl⟩ : ∃ w0 w1 w2 w3 : Value, args = #[w0, w1, w2, w3] := by
    have hs : args.size = 4 := by simpa [Cond.value, given_1] using k0
    obtain ⟨L⟩ := args
    match L, hs with
    | [w0, w1, w2, w3], _ => exact ⟨w0, w1, w2, w3, rfl⟩
  have hw := fun d (hd : d ∈ tables_1) => atoms_spec (ws := Jvm.Cond.code x code maxLocals ret :: tables_1) hat d (List.mem_cons_of_mem _ hd)
  have hfit : Fit s := fun {y c} hc i hi => by
    obtain ⟨ha, rfl⟩ := Array.getElem?_eq_some_iff.mp hc
    have q := List.all_eq_true.mp ((Array.all_eq_true_iff_forall_mem.mp hF) _ (Array.getElem_mem ha)) i (List.mem_range.mpr hi)
    simpa [Array.getElem?_eq_getElem hi] using q
  obtain ⟨i0, ei0⟩ := is_v k1
  obtain rfl : w0 = (.int i0) := Option.some.inj ei0
  obtain ⟨i1, ei1⟩ := is_v k2
  obtain rfl : w1 = (.int i1) := Option.some.inj ei1
  obtain ⟨i2, ei2⟩ := is_v k3
  obtain rfl : w2 = (.int i2) := Option.some.inj ei2
  obtain ⟨i3, ei3⟩ := is_v g3
  obtain rfl : w3 = (.int i3) := Option.some.inj ei3
  obtain ⟨n, o, h1, h2, h3, _, L, rfl, ⟨rfl, N⟩, hq⟩ := rm0 l s _ hw tables_1 i0 i1 i2 i3  s.heap s.heap.size (Nat.le_refl _)  p e ha hc hk s m _ below hf ((Spec.applies_iff_loose hf).mp happ).1 ⟨rfl, State.Warmed39.refl s, rfl⟩ trivial
  refine ⟨n, _, h1, h2, h3, hpost _ _ _ _ _ _ ⟨Cond.after_iff.mpr rfl, Cond.after_iff.mpr (eq_i res_at (Term.int_eval (1)) rfl), trivial⟩ ⟨hq.1, hq.2.1, (hq.2.2.sift fun y hy => Or.inr (N y hy)).mono (by decide) (by decide)⟩⟩
theorem main_1_1 : Claimed_1_1 := comes_1 fun _ _ _ _ _ _ h hF => ⟨h.1, hF⟩
theorem main_1_2 : Claimed_1_2 := comes_1 fun _ _ _ _ _ _ h hF => ⟨h.2.1, hF⟩
end Jvm.Pilot.@@N@@
namespace Jvm.Pilot.@@N@@
open Jvm Jvm.ClassFile Sem Op Lib Jvm.Free Jvm.Stand Jvm.Pilot.@@N@@.Jvm.D
/-! MADE BY PROGRAM (witnessworld.py) out of the Statement's table words and the real class files: 9 classes; the members and pool entries that the words name. The judged class is class 1, her method 1. -/
namespace start1
open Jvm.ClassFile
def u (s : String) : CpInfo := .utf8 (stringToUtf16 s)
/-- a pool by its gaps: so many unusable entries, then the entry; so many at the end -/
def gap : Nat → List CpInfo → List CpInfo
  | 0, r => r
  | n + 1, r => .unusable :: gap n r
def poolList (es : List (Nat × CpInfo)) (last : Nat) : List CpInfo := es.foldr (fun e r => gap e.1 (e.2 :: r)) (gap last [])
def pool (es : List (Nat × CpInfo)) (last : Nat) : Array CpInfo := ⟨poolList es last⟩
def fileOf (pool : Array CpInfo) (this : Nat) (attrs : Array Attribute := #[]) (ms : Array MethodInfo := #[]) (fl : Nat := 33) (sup : Nat := 0) (ifs : Array Nat := #[]) (fds : Array FieldInfo := #[]) : ClassFile where
  minorVersion := 0
  majorVersion := 65
  constantPool := pool
  accessFlags := fl
  thisClass := this
  superClass := sup
  interfaces := ifs
  fields := fds
  methods := ms
  attributes := attrs
def plain (name : String) (sup : Option ClassId) : Class where
  name := name
  kind := .ordinary
  loader := none
  accessFlags := 33
  super := sup
  interfaces := #[]
  cf := none
  fields := #[]
  methods := #[]
  instanceTypes := #[]
  staticTypes := #[]
  resolved := #[]
  callSites := []
  init := .initialized
  statics := none
  mirror := none

def pool0 : Array CpInfo := pool [(5, u "<init>"), (0, u "()V"), (1, .class_ 10), (1, u "java/lang/Object")] 113

def k0m0 : Method := { name := "<init>", desc := "()V", sig := { parameters := [], returnType := none }, accessFlags := 1, code := none }
/-- java/lang/Object -/
def k0 : Class := { plain "java/lang/Object" none with
  accessFlags := 33
  interfaces := #[]
  cf := some (fileOf pool0 8 #[] #[{ accessFlags := 1, nameIndex := 5, descriptorIndex := 6, attributes := #[] }] 33 0 #[] #[])
  fields := #[]
  methods := #[k0m0]
  instanceTypes := #[]
  staticTypes := #[]
  resolved := Array.replicate 124 none
  statics := none }

def pool1 : Array CpInfo := pool [(2, .class_ 4), (1, u "java/lang/Object"), (0, u "<init>"), (0, u "()V"), (0, .integer 2147483647), (0, .methodref 9 10), (0, .class_ 11), (0, .nameAndType 12 13), (0, u "com/example/partwise/partwise/storage/Utf8ContinuesSequencePinLaw"), (0, u "expected"), (0, u "(IIIII)Z"), (0, .methodref 15 16), (0, .class_ 17), (0, .nameAndType 18 19), (0, u "com/example/partwise/partwise/storage/Utf8"), (0, u "continuesSequence"), (0, u "([BII)Z"), (0, .methodref 9 21), (0, .nameAndType 22 23), (0, u "isCont"), (0, u "(I)Z"), (0, .integer 55296), (0, .integer 57343), (0, .integer 65536), (0, .integer 1114111), (2, u "law"), (0, u "(IIII)Z")] 5

def k1m0 : Method := { name := "<init>", desc := "()V", sig := { parameters := [], returnType := none }, accessFlags := 1, code := none }
def k1c1 : Code := { maxStack := 5, maxLocals := 14, code := code, exceptionTable := #[], attributes := #[] }
def k1m1 : Method := { name := "law", desc := "(IIII)Z", sig := { parameters := [.int, .int, .int, .int], returnType := some .boolean }, accessFlags := 9, code := some k1c1 }
def k1c2 : Code := { maxStack := 2, maxLocals := 1, code := method_3_code, exceptionTable := #[], attributes := #[] }
def k1m2 : Method := { name := "isCont", desc := "(I)Z", sig := { parameters := [.int], returnType := some .boolean }, accessFlags := 10, code := some k1c2 }
def k1c3 : Code := { maxStack := 3, maxLocals := 6, code := method_4_code, exceptionTable := #[], attributes := #[] }
def k1m3 : Method := { name := "expected", desc := "(IIIII)Z", sig := { parameters := [.int, .int, .int, .int, .int], returnType := some .boolean }, accessFlags := 10, code := some k1c3 }
/-- com/example/partwise/partwise/storage/Utf8ContinuesSequencePinLaw -/
def k1 : Class := { plain "com/example/partwise/partwise/storage/Utf8ContinuesSequencePinLaw" (some 0) with
  accessFlags := 49
  interfaces := #[]
  cf := some (fileOf pool1 9 #[] #[{ accessFlags := 1, nameIndex := 5, descriptorIndex := 6, attributes := #[] }, { accessFlags := 9, nameIndex := 30, descriptorIndex := 31, attributes := #[] }, { accessFlags := 10, nameIndex := 22, descriptorIndex := 23, attributes := #[] }, { accessFlags := 10, nameIndex := 12, descriptorIndex := 13, attributes := #[] }] 49 2 #[] #[])
  fields := #[]
  methods := #[k1m0, k1m1, k1m2, k1m3]
  instanceTypes := #[]
  staticTypes := #[]
  resolved := Array.replicate 37 none
  statics := none }

def pool2 : Array CpInfo := pool [(2, .class_ 4), (1, u "java/lang/Object"), (0, u "<init>"), (0, u "()V"), (23, .class_ 32), (1, u "com/example/partwise/partwise/storage/Utf8"), (4, u "continuesSequence"), (0, u "([BII)Z")] 8

def k2m0 : Method := { name := "<init>", desc := "()V", sig := { parameters := [], returnType := none }, accessFlags := 2, code := none }
def k2c1 : Code := { maxStack := 3, maxLocals := 8, code := prog_139_method_5_code, exceptionTable := #[], attributes := #[] }
def k2m1 : Method := { name := "continuesSequence", desc := "([BII)Z", sig := { parameters := [(.array .byte), .int, .int], returnType := some .boolean }, accessFlags := 8, code := some k2c1 }
/-- com/example/partwise/partwise/storage/Utf8 -/
def k2 : Class := { plain "com/example/partwise/partwise/storage/Utf8" (some 0) with
  accessFlags := 48
  interfaces := #[]
  cf := some (fileOf pool2 30 #[] #[{ accessFlags := 2, nameIndex := 5, descriptorIndex := 6, attributes := #[] }, { accessFlags := 8, nameIndex := 37, descriptorIndex := 38, attributes := #[] }] 48 2 #[] #[])
  fields := #[]
  methods := #[k2m0, k2m1]
  instanceTypes := #[]
  staticTypes := #[]
  resolved := Array.replicate 47 none
  statics := none }

def pool3 : Array CpInfo := pool [(1, u "java/lang/Cloneable"), (0, .class_ 1), (0, u "java/lang/Object"), (0, .class_ 3)] 3

/-- java/lang/Cloneable -/
def k3 : Class := { plain "java/lang/Cloneable" (some 0) with
  accessFlags := 1537
  interfaces := #[]
  cf := some (fileOf pool3 2 #[] #[] 1537 4 #[] #[])
  fields := #[]
  methods := #[]
  instanceTypes := #[]
  staticTypes := #[]
  resolved := Array.replicate 8 none
  statics := none }

def pool4 : Array CpInfo := pool [(1, u "java/io/Serializable"), (0, .class_ 1), (0, u "java/lang/Object"), (0, .class_ 3)] 3

/-- java/io/Serializable -/
def k4 : Class := { plain "java/io/Serializable" (some 0) with
  accessFlags := 1537
  interfaces := #[]
  cf := some (fileOf pool4 2 #[] #[] 1537 4 #[] #[])
  fields := #[]
  methods := #[]
  instanceTypes := #[]
  staticTypes := #[]
  resolved := Array.replicate 8 none
  statics := none }

/-- the primitive byte -/
def k5 : Class := { plain "byte" none with kind := .primitive 'B', accessFlags := 0x411 }
/-- [B -/
def k6 : Class := { plain "[B" (some 0) with kind := .array 5 .byte, interfaces := #[3, 4], accessFlags := 1041 }

/-- the primitive int -/
def k7 : Class := { plain "int" none with kind := .primitive 'I', accessFlags := 0x411 }
/-- [I -/
def k8 : Class := { plain "[I" (some 0) with kind := .array 7 .int, interfaces := #[3, 4], accessFlags := 1041 }

def heap : Heap := #[]
def classes : Array Class := #[k0, k1, k2, k3, k4, k5, k6, k7, k8]
def interned : List (Array UInt16 × Addr) := []
def slotsUsed : Nat := 0
def theMethod : MethodId := ⟨1, 1⟩
def args0 : Array Value := #[.int 5, .int 1, .int 2, .int 3]
def aboutOver (below : List Frame) : State where
  vm := { classes := classes, interned := interned.toArray }
  heap := heap
  slotsUsed := slotsUsed
  threads := #[{ frames := .invoking theMethod args0 :: below }]
def below0 : List Frame := [.native { method := ⟨0, 0⟩, args := #[] }]
def about1 : State := aboutOver below0
def p0 : Program := .bare "" "" ""
def e0 : Env := launch0.env 0 0 0
theorem w_frames : about1.frames = Frame.invoking theMethod args0 :: below0 := rfl
set_option maxRecDepth 65536 in
theorem w_args : argsFit about1.vm theMethod args0 = true := by decide +kernel
set_option maxRecDepth 65536 in
theorem w_heap : heapFits about1 = true := by decide +kernel
set_option maxRecDepth 65536 in
theorem w_runnable : about1.curStatus? = some .runnable := by decide +kernel
set_option maxRecDepth 65536 in
theorem w_alone : about1.alone = true := by decide +kernel
set_option maxRecDepth 65536 in
theorem w_named : about1.methodNamed? x = some theMethod := by decide +kernel
set_option maxRecDepth 65536 in
theorem w_hears : about1.hears theMethod below0 = true := by decide +kernel
set_option maxRecDepth 65536 in
theorem w_ripe : about1.ripe theMethod args0 below0 = true := by decide +kernel
theorem w_running : about1.status = .running := rfl
set_option maxRecDepth 65536 in
theorem w_room : about1.hasRoom e0.platform room_1 = true :=
  launch0.hasRoom_least _ room_1 (by decide +kernel) (by decide +kernel) (by decide +kernel) (by decide +kernel) (by decide +kernel) (by decide +kernel)
theorem allAtoms_all (ts : List Jvm.Cond) (a : Array Jvm.Value) (st : Jvm.State) : (allAtoms ts).before a st = ts.all (fun c => c.before a st) := by
  induction ts with
  | nil => rfl
  | cons c t ih =>
    show (Jvm.Cond.and c (allAtoms t)).before a st = _
    rw [Jvm.Cond.before_and, ih, List.all_cons]
def words1 : List Jvm.Cond := Jvm.Cond.code x code maxLocals ret :: tables_1
/-- a 'code' word, met by the world's own term for the bytes: nothing is compared byte by byte -/
theorem code_word {y : MethodName} {bytes : ByteArray} {mx : Nat} {rt : Option FieldType} {a : Array Value} {s : State} {m : MethodId} {meth : Method} {c : Code} (h1 : s.methodNamed? y = some m) (h2 : s.vm.method? m = some meth) (h3 : meth.code = some c) (h4 : c.code = bytes)
    (h5 : (c.maxLocals == mx && c.exceptionTable.isEmpty && decide (c.maxStack ≤ mostOperands) && decide (meth.sig.returnType = rt) && !meth.locks && decide (parseMethodDescriptor y.desc = some meth.sig)) = true) : (Jvm.Cond.code y bytes mx rt).before a s = true := by
  simp only [Bool.and_eq_true, beq_iff_eq, Bool.not_eq_true', decide_eq_true_eq] at h5
  obtain ⟨⟨⟨⟨⟨g1, g2⟩, g3⟩, g4⟩, g5⟩, g6⟩ := h5
  simp [Cond.before, Cond.holds, Cond.value, h1, h2, h3, h4, g1, g2, g3, g4, g5, g6]
def isCode : Jvm.Cond → Bool
  | .code _ _ _ _ => true
  | _ => false
theorem all_split {L : List Jvm.Cond} {P : Jvm.Cond → Bool} (h1 : L.all (fun c => isCode c || P c) = true) (h2 : ∀ c ∈ L.filter isCode, P c = true) : L.all P = true := by
  refine List.all_eq_true.mpr fun c hc => ?_
  have h := List.all_eq_true.mp h1 c hc
  rcases Bool.eq_false_or_eq_true (isCode c) with hi | hi
  · exact h2 c (List.mem_filter.mpr ⟨hc, hi⟩)
  · simpa [hi] using h
set_option maxRecDepth 65536 in
theorem w_c0 : (Jvm.Cond.code x code maxLocals ret).before args0 about1 = true := code_word (m := ⟨1, 1⟩) (meth := k1m1) (c := k1c1) (by decide +kernel) rfl rfl rfl (by decide +kernel)
set_option maxRecDepth 65536 in
theorem w_c1 : (Jvm.Cond.code ({ cls := "com/example/partwise/partwise/storage/Utf8ContinuesSequencePinLaw", name := "expected", desc := "(IIIII)Z" } : Jvm.MethodName) method_4_code (6 : Nat) (Option.some Jvm.ClassFile.FieldType.boolean)).before args0 about1 = true := code_word (m := ⟨1, 3⟩) (meth := k1m3) (c := k1c3) (by decide +kernel) rfl rfl rfl (by decide +kernel)
set_option maxRecDepth 65536 in
theorem w_c2 : (Jvm.Cond.code ({ cls := "com/example/partwise/partwise/storage/Utf8ContinuesSequencePinLaw", name := "isCont", desc := "(I)Z" } : Jvm.MethodName) method_3_code (1 : Nat) (Option.some Jvm.ClassFile.FieldType.boolean)).before args0 about1 = true := code_word (m := ⟨1, 2⟩) (meth := k1m2) (c := k1c2) (by decide +kernel) rfl rfl rfl (by decide +kernel)
set_option maxRecDepth 65536 in
theorem w_c3 : (Jvm.Cond.code ({ cls := "com/example/partwise/partwise/storage/Utf8", name := "continuesSequence", desc := "([BII)Z" } : Jvm.MethodName) prog_139_method_5_code (8 : Nat) (Option.some Jvm.ClassFile.FieldType.boolean)).before args0 about1 = true := code_word (m := ⟨2, 1⟩) (meth := k2m1) (c := k2c1) (by decide +kernel) rfl rfl rfl (by decide +kernel)
def codes1 : List Jvm.Cond := [Jvm.Cond.code x code maxLocals ret, Jvm.Cond.code ({ cls := "com/example/partwise/partwise/storage/Utf8ContinuesSequencePinLaw", name := "expected", desc := "(IIIII)Z" } : Jvm.MethodName) method_4_code (6 : Nat) (Option.some Jvm.ClassFile.FieldType.boolean), Jvm.Cond.code ({ cls := "com/example/partwise/partwise/storage/Utf8ContinuesSequencePinLaw", name := "isCont", desc := "(I)Z" } : Jvm.MethodName) method_3_code (1 : Nat) (Option.some Jvm.ClassFile.FieldType.boolean), Jvm.Cond.code ({ cls := "com/example/partwise/partwise/storage/Utf8", name := "continuesSequence", desc := "([BII)Z" } : Jvm.MethodName) prog_139_method_5_code (8 : Nat) (Option.some Jvm.ClassFile.FieldType.boolean)]
set_option maxRecDepth 65536 in
theorem codes_eq : words1.filter isCode = codes1 := rfl
theorem w_codes : ∀ c ∈ words1.filter isCode, c.before args0 about1 = true := by
  rw [codes_eq]
  intro c hc
  simp only [codes1, List.mem_cons, List.not_mem_nil, or_false] at hc
  rcases hc with rfl | rfl | rfl | rfl
  · exact w_c0
  · exact w_c1
  · exact w_c2
  · exact w_c3
set_option maxRecDepth 65536 in
theorem w_t1 : words1.all (fun c => isCode c || c.before args0 about1) = true := by decide +kernel
theorem w_tables : (allAtoms (Jvm.Cond.code x code maxLocals ret :: tables_1)).before args0 about1 = true := by
  rw [allAtoms_all]
  show words1.all (fun c => c.before args0 about1) = true
  refine all_split ?_ w_codes
  rw [w_t1]
set_option maxRecDepth 65536 in
theorem w_case : (Jvm.Cond.and given_1 narrow_1).before args0 about1 = true := by decide +kernel
theorem w_applies : (headSpec (Jvm.Cond.code x code maxLocals ret :: tables_1) room_1).applies x e0.platform about1 = true :=
  (Spec.applies_iff w_frames).mpr ⟨w_running, w_runnable, w_alone, w_named, w_hears, w_ripe, w_room, w_tables⟩
theorem atStart : AtStart classFile x code maxLocals ret World_1 tables_1 room_1 Calls_1 rest_1 Pre_1 launch0 p0 e0 about1 theMethod args0 below0 :=
  ⟨lists_1, trivial, launch0.admits_env _ _ _, launch0.least_env, fairChoices_fair.cas, fairChoices_fair.clock, w_frames, w_args, w_heap, w_applies, trivial, trivial, w_case⟩
end start1
theorem witness_1 : WitnessClaimed_1 := ⟨start1.p0, start1.e0, start1.about1, start1.theMethod, start1.args0, start1.below0, start1.atStart⟩
end Jvm.Pilot.@@N@@
