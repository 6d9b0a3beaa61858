import JvmDerived
import JvmDerived.Pilot.@@N@@Statement
import JvmDerived.Pilot.@@N@@Code
set_option linter.unusedVariables false
set_option linter.unusedSimpArgs false
@@BLOCK:NumsL.lean.txt@@
namespace Jvm.RoadKit
open Sem ClassFile Op Lib Jvm.Stand Jvm.Free Jvm.LawKit
section New
variable {p : Program} {l : Launch} {e : Env} {R : Room} {s : State} {m : MethodId} {args : Array Value} {below : List Frame} {meth : Method} {c : Code} {T : State} {locs : List Loc} {cells slots : Nat}
theorem retI (X : Stand p l e R s m args below meth c T locs cells slots) (hx : p.tables.exec = Jvm.exec) {pc : Nat} {Ls : Array Slot} {z : Int32} {rest : List Value} (hret : meth.sig.returnType = some .int) (hd : decode c.code pc = .ok (.ireturn, 1)) {fs : List Frame}
    (hl : ∀ (f : JFrame) (acts : List Action), f.method = m → f.locked = none → f.entered = [] → (doReturn e (T.setTop f) acts (some (.int z))).1 = T.setFrames fs) : Steps p.tables e below (T.setTop (mkF m pc Ls (.int z :: rest))) (T.setFrames fs) := by
  have hm' : T.vm.method? m = some meth := X.method'
  have hn : narrow .int (.int z) = .int z := rfl
  show Steps p.tables e below (T.setTop { method := m, pc := pc, locals := Ls, stack := _ :: rest, locked := none }) _
  jvm_step X.here [X.here.top, hx, hd, hm', hret, hn]
  first | (intro acts; rw [hl _ acts rfl rfl rfl]) | rw [hl _ _ rfl rfl rfl]
  exact Steps.refl _
theorem retD (X : Stand p l e R s m args below meth c T locs cells slots) (hx : p.tables.exec = Jvm.exec) {pc : Nat} {Ls : Array Slot} {z : UInt64} {rest : List Value} (hret : meth.sig.returnType = some .double) (hd : decode c.code pc = .ok (.dreturn, 1)) {fs : List Frame}
    (hl : ∀ (f : JFrame) (acts : List Action), f.method = m → f.locked = none → f.entered = [] → (doReturn e (T.setTop f) acts (some (.double z))).1 = T.setFrames fs) : Steps p.tables e below (T.setTop (mkF m pc Ls (.double z :: rest))) (T.setFrames fs) := by
  have hm' : T.vm.method? m = some meth := X.method'
  show Steps p.tables e below (T.setTop { method := m, pc := pc, locals := Ls, stack := _ :: rest, locked := none }) _
  jvm_step X.here [X.here.top, hx, hd, hm', hret]
  first | (intro acts; rw [hl _ acts rfl rfl rfl]) | rw [hl _ _ rfl rfl rfl]
  exact Steps.refl _
end New
end Jvm.RoadKit
namespace Jvm.Pilot.@@N@@
open Jvm Jvm.ClassFile Sem Op Lib Jvm.Free Jvm.Stand Jvm.LawKit Jvm.RoadKit Bundle Jvm.Pilot.@@N@@.Jvm.D
theorem jtlt {x y : Int64} (h : x < y) : ifCond.holds .lt (lcmpW x y) = true ∧ ifCond.holds .ge (lcmpW x y) = false ∧ ifCond.holds .gt (lcmpW y x) = true ∧ ifCond.holds .le (lcmpW y x) = false := by
  have h1 : ¬ y < x := by rw [Int64.lt_iff_toInt_lt] at h ⊢; omega
  have h2 : ¬ x = y := by rintro rfl; exact h1 h
  have h3 : ¬ y = x := fun q => h2 q.symm
  simp [ifCond.holds, lcmpW, h, h1, h2, h3]
theorem jflt {x y : Int64} (h : ¬ x < y) : ifCond.holds .lt (lcmpW x y) = false ∧ ifCond.holds .ge (lcmpW x y) = true ∧ ifCond.holds .gt (lcmpW y x) = false ∧ ifCond.holds .le (lcmpW y x) = true := by
  by_cases h2 : x = y
  · subst h2; simp [ifCond.holds, lcmpW, h]
  · have h1 : y < x := by rw [Int64.lt_iff_toInt_lt] at h ⊢; rw [← Int64.toInt_inj] at h2; omega
    have h3 : ¬ y = x := fun q => h2 q.symm
    simp [ifCond.holds, lcmpW, h, h1, h2, h3]
theorem jteq {x y : Int64} (h : x = y) : ifCond.holds .eq (lcmpW x y) = true ∧ ifCond.holds .ne (lcmpW x y) = false := by
  subst h
  have h1 : ¬ x < x := by rw [Int64.lt_iff_toInt_lt]; omega
  simp [ifCond.holds, lcmpW, h1]
theorem jfeq {x y : Int64} (h : ¬ x = y) : ifCond.holds .eq (lcmpW x y) = false ∧ ifCond.holds .ne (lcmpW x y) = true := by
  by_cases h1 : y < x <;> simp [ifCond.holds, lcmpW, h, h1]
theorem own_sta_keep {Z : State} {h h' : Heap} {C n d : String} {v : Value} {ws : List Addr} (F : Sta Z h C n d v) (K : Keep h h' ws) (q : ∀ x ∈ ws, ∃ c : Cell, h[x]? = some c ∧ c.vm.isStatics = false) : Sta Z h' C n d v := by
  obtain ⟨cf, i, k, f, st, cell, h1, h2, h3, h4, h5, h6, h7⟩ := F
  refine ⟨cf, i, k, f, st, cell, h1, h2, h3, h4, K.2.1 st cell h5 (fun hm => ?_), h6, h7⟩
  obtain ⟨c, e1, e2⟩ := q st hm
  rw [h5] at e1; cases e1; rw [h6] at e2; cases e2
theorem own_nostat {Z : State} {h : Heap} {a : Addr} {C : String} (E : Exa Z h a C) : ∃ c : Cell, h[a]? = some c ∧ c.vm.isStatics = false := by
  obtain ⟨cell, k, h1, -, -, h4, -⟩ := E
  exact ⟨cell, h1, h4⟩
theorem own_bits {v : Int64} {m e : Nat} (h1 : 4503599627370496 ≤ m) (h2 : m < 9007199254740992) (he : e ≤ 7) (hv : v.toInt = ((m * 2 ^ e : Nat) : Int)) : (FP.l2d v).toNat = (e + 1075) * 4503599627370496 + (m - 4503599627370496) := by
  have e0 : (FP.l2d v).toNat = FP.Core.fromInt FP.Core.b64 v.toInt := FP.Core.toNat_l2d v
  have e1 : FP.Core.ofInt v.toInt = .fin false (m * 2 ^ e) 0 := by
    rw [hv]
    show FP.Core.Datum.fin (decide (((m * 2 ^ e : Nat) : Int) < 0)) (((m * 2 ^ e : Nat) : Int).natAbs) 0 = _
    rw [Int.natAbs_natCast, decide_eq_false (by omega)]
  have e2 : FP.Core.round FP.Core.b64 (.fin false (m * 2 ^ e) 0) = .fin false m e := by
    show FP.Core.roundRatio FP.Core.b64 false (m * 2 ^ e) 1 0 = _
    refine FP.Core.roundRatio_exact FP.Core.good_b64 (by decide) ⟨h2, ?_, ?_, Or.inr h1⟩ ?_
    · show (-1074 : Int) ≤ e; omega
    · show (e : Int) ≤ 971; omega
    · rw [show ((0 : Int) - (e : Int)).toNat = 0 by omega, show ((e : Int) - 0).toNat = e by omega, Nat.pow_zero, Nat.mul_one, Nat.mul_one]
  rw [e0]
  show FP.Core.encode FP.Core.b64 (FP.Core.round FP.Core.b64 (FP.Core.ofInt v.toInt)) = _
  rw [e1, e2]
  show (if m < 4503599627370496 then _ else FP.Core.assemble FP.Core.b64 false (((e : Int) - (-1074)).toNat + 1) (m - 4503599627370496)) = _
  rw [if_neg (by omega)]
  show (0 * 2048 + (((e : Int) - (-1074)).toNat + 1)) * 4503599627370496 + (m - 4503599627370496) = _
  omega
theorem own_mh {x v1 v2 v3 v4 v5 v6 v7 v8 v9 : Int64} (h0 : 0 ≤ x.toInt) (h1 : x.toInt < 2 ^ 55)
   (a1 : v1 = x >>> ((32 : Int32) &&& 0x3f).toInt64) (a2 : v2 = x &&& (4294967295 : Int64)) (a3 : v3 = (1 : Int64) >>> ((32 : Int32) &&& 0x3f).toInt64) (a4 : v4 = (1 : Int64) &&& (4294967295 : Int64))
   (a5 : v5 = v2 * v4) (a6 : v6 = (v1 * v4) + ((v5.toUInt64 >>> ((32 : Int32) &&& 0x3f).toInt64.toUInt64).toInt64)) (a7 : v7 = v6 &&& (4294967295 : Int64)) (a8 : v8 = v6 >>> ((32 : Int32) &&& 0x3f).toInt64) (a9 : v9 = v7 + (v2 * v3)) :
   (((v1 * v3) + v8) + (v9 >>> ((32 : Int32) &&& 0x3f).toInt64)) = (0 : Int64) := by
  have b3 : v3 = 0 := by rw [a3]; decide
  have b4 : v4 = 1 := by rw [a4]; decide
  subst b3 b4
  have z1 : ∀ y : Int64, y * 1 = y := fun y => Int64.mul_one y
  have z0 : ∀ y : Int64, y * 0 = 0 := fun y => Int64.mul_zero
  rw [z1] at a5 a6
  rw [z0] at a9 ⊢
  have d2 : v2.toInt = x.toInt % 2 ^ 32 := by rw [a2]; exact Jvm.Kit.i64_mask x (4294967295 : Int64) (k := 32) (by decide) (by decide)
  have d1 : v1.toInt = x.toInt / 2 ^ 32 := by rw [a1]; exact Jvm.Kit.i64_shr x _ (k := 32) (by decide)
  subst a5
  have d5 : ((v5.toUInt64 >>> ((32 : Int32) &&& 0x3f).toInt64.toUInt64).toInt64).toInt = v5.toInt / 2 ^ 32 := Jvm.Kit.i64_lushr (Jvm.Kit.i64_nonneg.mpr (by omega)) (k := 32) (by decide) (by decide)
  have d6 : v6.toInt = v1.toInt := by rw [a6, Jvm.Kit.i64_add (by rw [d5]; omega) (by rw [d5]; omega), d5]; omega
  have d7 : v7.toInt = v6.toInt % 2 ^ 32 := by rw [a7]; exact Jvm.Kit.i64_mask v6 (4294967295 : Int64) (k := 32) (by decide) (by decide)
  have d8 : v8.toInt = v6.toInt / 2 ^ 32 := by rw [a8]; exact Jvm.Kit.i64_shr v6 _ (k := 32) (by decide)
  have d9 : v9 = v7 := by rw [a9]; exact Int64.add_zero v7
  have d10 : (v9 >>> ((32 : Int32) &&& 0x3f).toInt64).toInt = v9.toInt / 2 ^ 32 := Jvm.Kit.i64_shr v9 _ (k := 32) (by decide)
  have c8 : v8 = 0 := Int64.toInt_inj.mp (by rw [d8, Int64.toInt_zero]; omega)
  have c10 : (v9 >>> ((32 : Int32) &&& 0x3f).toInt64) = 0 := Int64.toInt_inj.mp (by rw [d10, d9, Int64.toInt_zero]; omega)
  rw [c8, c10]
  decide
theorem own_d {d : UInt64} {v : Int64} {mm ee : Nat} (hb : d.toNat = (ee + 1075) * 4503599627370496 + (mm - 4503599627370496) ∧ 4503599627370496 ≤ mm ∧ mm < 9007199254740992 ∧ ee ≤ 7) (hv : v = d.toInt64) : v.toInt = ((ee : Int) + 1075) * 4503599627370496 + ((mm : Int) - 4503599627370496) := by
  have e1 : v.toInt = d.toBitVec.toInt := by rw [hv]; rfl
  have e2 : d.toBitVec.toNat = d.toNat := rfl
  rw [e1, BitVec.toInt_eq_toNat_cond, e2, if_pos (by omega)]
  omega
theorem own_sh {d : UInt64} {v : Int64} {mm ee : Nat} (hb : d.toNat = (ee + 1075) * 4503599627370496 + (mm - 4503599627370496) ∧ 4503599627370496 ≤ mm ∧ mm < 9007199254740992 ∧ ee ≤ 7) (hv : v = d.toInt64) : ((v.toUInt64 >>> ((52 : Int32) &&& 0x3f).toInt64.toUInt64).toInt64).toInt = (ee : Int) + 1075 := by
  have q := own_d hb hv
  rw [Jvm.Kit.i64_lushr (Jvm.Kit.i64_nonneg.mpr (by omega)) (k := 52) (by decide) (by decide), q]
  omega
theorem own_sig0 {d : UInt64} {v : Int64} {mm ee : Nat} (hb : d.toNat = (ee + 1075) * 4503599627370496 + (mm - 4503599627370496) ∧ 4503599627370496 ≤ mm ∧ mm < 9007199254740992 ∧ ee ≤ 7) (hv : v = d.toInt64) : ¬ (((v.toUInt64 >>> ((52 : Int32) &&& 0x3f).toInt64.toUInt64).toInt64) = (0 : Int64)) := by
  intro h
  have q := own_sh hb hv
  rw [h, Int64.toInt_zero] at q
  omega
theorem own_sig {d : UInt64} {v : Int64} {mm ee : Nat} (hb : d.toNat = (ee + 1075) * 4503599627370496 + (mm - 4503599627370496) ∧ 4503599627370496 ≤ mm ∧ mm < 9007199254740992 ∧ ee ≤ 7) (hv : v = d.toInt64) : ((v &&& (4503599627370495 : Int64)) ||| (4503599627370496 : Int64)).toInt = (mm : Int) := by
  have q := own_d hb hv
  have mk := Jvm.Kit.i64_mask v (4503599627370495 : Int64) (k := 52) (by decide) (by decide)
  have e1 : (4503599627370496 : Int64).toInt = 4503599627370496 := by decide
  have o := c_orL' (v &&& (4503599627370495 : Int64)) (4503599627370496 : Int64) 52 (by decide) 4503599627370496 (by decide +kernel) (by rw [e1]; decide +kernel) (by rw [mk]; omega) (by rw [mk]; omega)
  rw [e1, mk] at o
  have b1 := ((v &&& (4503599627370495 : Int64)) ||| (4503599627370496 : Int64)).toInt_lt
  have b2 := ((v &&& (4503599627370495 : Int64)) ||| (4503599627370496 : Int64)).le_toInt
  omega
theorem own_two {d : UInt64} {v r : Int32} {mm ee : Nat} (hb : d.toNat = (ee + 1075) * 4503599627370496 + (mm - 4503599627370496) ∧ 4503599627370496 ≤ mm ∧ mm < 9007199254740992 ∧ ee ≤ 7) (hv : v = ((((d.toInt64).toUInt64 >>> ((52 : Int32) &&& 0x3f).toInt64.toUInt64).toInt64).toInt32))
    (hr : (v < (1 : Int32) ∧ r = (1 : Int32)) ∨ (¬ (v < (1 : Int32)) ∧ r = v)) : ((r + (-1074 : Int32)) - (1 : Int32)).toInt = (ee : Int) := by
  have q := own_sh hb rfl
  have e1 : v.toInt = (ee : Int) + 1075 := by rw [hv, Jvm.Kit.i32_of_i64 (by rw [q]; omega) (by rw [q]; omega), q]
  have a1 := c_iadd r (-1074 : Int32)
  have a2 := c_isub (r + (-1074 : Int32)) (1 : Int32)
  have f1 : (-1074 : Int32).toInt = -1074 := by decide +kernel
  have f2 : (1 : Int32).toInt = 1 := by decide +kernel
  rw [f1] at a1
  rw [f2] at a2
  have b1 := ((r + (-1074 : Int32)) - (1 : Int32)).toInt_lt
  have b2 := ((r + (-1074 : Int32)) - (1 : Int32)).le_toInt
  rw [Int32.lt_iff_toInt_lt, ← Int32.toInt_inj, ← Int32.toInt_inj, f2] at hr
  generalize (r + (-1074 : Int32)).toInt = A at *
  generalize ((r + (-1074 : Int32)) - (1 : Int32)).toInt = B at *
  omega
theorem own_one (x : Int64) : x * (1 : Int64) = x := Int64.mul_one x
theorem own_or0 (x : Int64) : x ||| (0 : Int64) = x := Int64.or_zero
theorem own_tu1 {x v14 v17 v19 : Int64} {v18 : Int32} (h0 : 0 ≤ x.toInt) (h1 : x.toInt < 2 ^ 55) (a : v14 = x * (1 : Int64)) (b : v17 = (((v14.toUInt64 >>> ((1 : Int32) &&& 0x3f).toInt64.toUInt64).toInt64) ||| (0 : Int64))) (c : v19 = (2 : Int64) * v17)
    (hj : ((v14 <<< ((63 : Int32) &&& 0x3f).toInt64) = (0 : Int64) ∧ v18 = (0 : Int32)) ∨ (¬ ((v14 <<< ((63 : Int32) &&& 0x3f).toInt64) = (0 : Int64)) ∧ v18 = (1 : Int32))) : (v19 + (v18.toInt64)).toInt = x.toInt := by
  rw [own_one] at a
  subst a
  rw [own_or0] at b
  have q : v17.toInt = v14.toInt / 2 ^ 1 := by rw [b]; exact Jvm.Kit.i64_lushr (Jvm.Kit.i64_nonneg.mpr h0) (k := 1) (by decide) (by decide)
  have m := c_lmul (2 : Int64) v17
  rw [← c] at m
  have s := c_lshl v14 (63 : Int32) 63 (by decide)
  have ad := c_ladd v19 (v18.toInt64)
  rw [c_i2l] at ad
  have r1 := v19.toInt_lt; have r2 := v19.le_toInt
  have r3 := (v19 + (v18.toInt64)).toInt_lt; have r4 := (v19 + (v18.toInt64)).le_toInt
  have r5 := (v14 <<< ((63 : Int32) &&& 0x3f).toInt64).toInt_lt; have r6 := (v14 <<< ((63 : Int32) &&& 0x3f).toInt64).le_toInt
  have e2 : (2 : Int64).toInt = 2 := by decide
  rw [e2] at m
  simp only [← Int64.toInt_inj, Int64.reduceToInt, ← Int32.toInt_inj, Int32.reduceToInt] at hj
  generalize (v14 <<< ((63 : Int32) &&& 0x3f).toInt64).toInt = T at *
  omega
theorem own_tu2 {x v14 v17 v19 : Int64} {v18 : Int32} (h0 : 0 ≤ x.toInt) (h1 : x.toInt < 2 ^ 55) (a : v14 = x * (1 : Int64)) (b : v17 = (((v14.toUInt64 >>> ((2 : Int32) &&& 0x3f).toInt64.toUInt64).toInt64) ||| (0 : Int64))) (c : v19 = (2 : Int64) * v17)
    (hj : ((v14 <<< ((62 : Int32) &&& 0x3f).toInt64) = (0 : Int64) ∧ v18 = (0 : Int32)) ∨ (¬ ((v14 <<< ((62 : Int32) &&& 0x3f).toInt64) = (0 : Int64)) ∧ v18 = (1 : Int32))) : (v19 + (v18.toInt64)).toInt = 2 * (x.toInt / 4) + (if x.toInt % 4 = 0 then 0 else 1) := by
  rw [own_one] at a
  subst a
  rw [own_or0] at b
  have q : v17.toInt = v14.toInt / 2 ^ 2 := by rw [b]; exact Jvm.Kit.i64_lushr (Jvm.Kit.i64_nonneg.mpr h0) (k := 2) (by decide) (by decide)
  have m := c_lmul (2 : Int64) v17
  rw [← c] at m
  have s := c_lshl v14 (62 : Int32) 62 (by decide)
  have ad := c_ladd v19 (v18.toInt64)
  rw [c_i2l] at ad
  have r1 := v19.toInt_lt; have r2 := v19.le_toInt
  have r3 := (v19 + (v18.toInt64)).toInt_lt; have r4 := (v19 + (v18.toInt64)).le_toInt
  have r5 := (v14 <<< ((62 : Int32) &&& 0x3f).toInt64).toInt_lt; have r6 := (v14 <<< ((62 : Int32) &&& 0x3f).toInt64).le_toInt
  have e2 : (2 : Int64).toInt = 2 := by decide
  rw [e2] at m
  simp only [← Int64.toInt_inj, Int64.reduceToInt, ← Int32.toInt_inj, Int32.reduceToInt] at hj
  generalize (v14 <<< ((62 : Int32) &&& 0x3f).toInt64).toInt = T at *
  split <;> omega
theorem own_v4 {s : Int64} {mm : Nat} (hs : s.toInt = (mm : Int)) (h1 : 4503599627370496 ≤ mm) (h2 : mm < 9007199254740992) : (((4 : Int64) * s) - (1 : Int64)).toInt = 4 * (mm : Int) - 1 := by
  have e4 : (4 : Int64).toInt = 4 := by decide
  have e1 : (1 : Int64).toInt = 1 := by decide
  have m : ((4 : Int64) * s).toInt = 4 * (mm : Int) := by rw [Jvm.Kit.i64_mul (by rw [e4]; omega) (by rw [e4]; omega), e4, hs]
  rw [Jvm.Kit.i64_sub (by rw [m, e1]; omega) (by rw [m, e1]; omega), m, e1]
theorem own_v2 {s : Int64} {mm : Nat} (hs : s.toInt = (mm : Int)) (h1 : 4503599627370496 ≤ mm) (h2 : mm < 9007199254740992) : (((2 : Int64) * s) - (1 : Int64)).toInt = 2 * (mm : Int) - 1 := by
  have e4 : (2 : Int64).toInt = 2 := by decide
  have e1 : (1 : Int64).toInt = 1 := by decide
  have m : ((2 : Int64) * s).toInt = 2 * (mm : Int) := by rw [Jvm.Kit.i64_mul (by rw [e4]; omega) (by rw [e4]; omega), e4, hs]
  rw [Jvm.Kit.i64_sub (by rw [m, e1]; omega) (by rw [m, e1]; omega), m, e1]
theorem own_v2p {s : Int64} {mm : Nat} (hs : s.toInt = (mm : Int)) (h1 : 4503599627370496 ≤ mm) (h2 : mm < 9007199254740992) : (((2 : Int64) * s) + (1 : Int64)).toInt = 2 * (mm : Int) + 1 := by
  have e4 : (2 : Int64).toInt = 2 := by decide
  have e1 : (1 : Int64).toInt = 1 := by decide
  have m : ((2 : Int64) * s).toInt = 2 * (mm : Int) := by rw [Jvm.Kit.i64_mul (by rw [e4]; omega) (by rw [e4]; omega), e4, hs]
  rw [Jvm.Kit.i64_add (by rw [m, e1]; omega) (by rw [m, e1]; omega), m, e1]
theorem own_r4 {s : Int64} {mm : Nat} (hs : s.toInt = (mm : Int)) (h1 : 4503599627370496 ≤ mm) (h2 : mm < 9007199254740992) : 0 ≤ (((4 : Int64) * s) - (1 : Int64)).toInt ∧ (((4 : Int64) * s) - (1 : Int64)).toInt < 2 ^ 55 := by
  rw [own_v4 hs h1 h2]; omega
theorem own_r2 {s : Int64} {mm : Nat} (hs : s.toInt = (mm : Int)) (h1 : 4503599627370496 ≤ mm) (h2 : mm < 9007199254740992) : 0 ≤ (((2 : Int64) * s) - (1 : Int64)).toInt ∧ (((2 : Int64) * s) - (1 : Int64)).toInt < 2 ^ 55 := by
  rw [own_v2 hs h1 h2]; omega
theorem own_r2p {s : Int64} {mm : Nat} (hs : s.toInt = (mm : Int)) (h1 : 4503599627370496 ≤ mm) (h2 : mm < 9007199254740992) : 0 ≤ (((2 : Int64) * s) + (1 : Int64)).toInt ∧ (((2 : Int64) * s) + (1 : Int64)).toInt < 2 ^ 55 := by
  rw [own_v2p hs h1 h2]; omega
theorem own_gn {s : Int64} {mm : Nat} {v : Int32} (hs : s.toInt = (mm : Int)) (hj : ((s &&& (1 : Int64)) = (0 : Int64) ∧ v = (1 : Int32)) ∨ (¬ ((s &&& (1 : Int64)) = (0 : Int64)) ∧ v = (0 : Int32))) : ((nar .boolean v).toInt = 1 ∧ mm % 2 = 0) ∨ ((nar .boolean v).toInt = 0 ∧ mm % 2 = 1) := by
  have mk := Jvm.Kit.i64_mask s (1 : Int64) (k := 1) (by decide) (by decide)
  rw [hs] at mk
  rcases hj with ⟨q, rfl⟩ | ⟨q, rfl⟩
  · left
    rw [q, Int64.toInt_zero] at mk
    exact ⟨by decide, by omega⟩
  · right
    refine ⟨by decide, ?_⟩
    have : ¬ ((mm : Int) % 2 ^ 1 = 0) := fun z => q (Int64.toInt_inj.mp (by rw [mk, Int64.toInt_zero]; exact z))
    omega
theorem own_gh {s : Int64} {mm : Nat} (hs : s.toInt = (mm : Int)) : s = (4503599627370496 : Int64) ↔ mm = 4503599627370496 := by
  rw [← Int64.toInt_inj, hs]
  have e : (4503599627370496 : Int64).toInt = 4503599627370496 := by decide
  rw [e]; omega
theorem own_dbl {v q : Int64} (h : v = (2 : Int64) * q) (h0 : -2 ^ 62 ≤ q.toInt) (h1 : q.toInt < 2 ^ 62) : v.toInt = 2 * q.toInt := by
  have e4 : (2 : Int64).toInt = 2 := by decide
  rw [h, Jvm.Kit.i64_mul (by rw [e4]; omega) (by rw [e4]; omega), e4]
theorem own_e8 {x v : Int32} (h : v = x &&& (7 : Int32)) : v = (0 : Int32) ∨ v = (1 : Int32) ∨ v = (2 : Int32) ∨ v = (3 : Int32) ∨ v = (4 : Int32) ∨ v = (5 : Int32) ∨ v = (6 : Int32) ∨ v = (7 : Int32) := by
  have m := Jvm.Kit.i32_mask x (7 : Int32) (k := 3) (by decide) (by decide)
  simp only [← Int32.toInt_inj, Int32.reduceToInt, h, m]
  omega
theorem own_m {q m : Int64} (h : m = (4503599627370496 : Int64) ||| (q &&& (4503599627370495 : Int64))) : 4503599627370496 ≤ m.toInt ∧ m.toInt < 9007199254740992 := by
  have mk := Jvm.Kit.i64_mask q (4503599627370495 : Int64) (k := 52) (by decide) (by decide)
  have e1 : (4503599627370496 : Int64).toInt = 4503599627370496 := by decide
  have o := c_orL (4503599627370496 : Int64) (q &&& (4503599627370495 : Int64)) 52 (by decide) 4503599627370496 (by decide +kernel) (by rw [e1]; decide +kernel) (by rw [mk]; omega) (by rw [mk]; omega)
  rw [← h, e1, mk] at o
  have b1 := m.toInt_lt
  have b2 := m.le_toInt
  omega
theorem own_bits2 {v m : Int64} {e : Nat} (h1 : 4503599627370496 ≤ m.toInt) (h2 : m.toInt < 9007199254740992) (he : e ≤ 7) (hv : v.toInt = m.toInt * 2 ^ e) : (FP.l2d v).toNat = (e + 1075) * 4503599627370496 + (m.toInt.toNat - 4503599627370496) ∧ 4503599627370496 ≤ m.toInt.toNat ∧ m.toInt.toNat < 9007199254740992 ∧ e ≤ 7 := by
  have hm : ((m.toInt.toNat : Nat) : Int) = m.toInt := Int.toNat_of_nonneg (by omega)
  refine ⟨own_bits (by omega) (by omega) he ?_, by omega, by omega, he⟩
  rw [hv, Int.natCast_mul, hm, Int.natCast_pow]
  rfl
theorem own_n {v n w : Int64} {s : Int32} {C1 C2 : Prop} (h0 : 4503599627370496 ≤ v.toInt) (h1 : v.toInt < 2 ^ 60) (hj : (C1 ∧ n = ((v + (((s >>> ((1 : Int32) &&& 31)) &&& (511 : Int32)).toInt64)) - (256 : Int64))) ∨ (C2 ∧ n = (w &&& (2305843009213693951 : Int64)))) :
    (v.toInt - 256 ≤ n.toInt ∧ n.toInt ≤ v.toInt + 255) ∨ (0 ≤ n.toInt ∧ n.toInt < 2 ^ 61) := by
  rcases hj with ⟨-, rfl⟩ | ⟨-, rfl⟩
  · left
    have mk := Jvm.Kit.i32_mask (s >>> ((1 : Int32) &&& 31)) (511 : Int32) (k := 9) (by decide) (by decide)
    have e1 : (256 : Int64).toInt = 256 := by decide
    have a : (v + (((s >>> ((1 : Int32) &&& 31)) &&& (511 : Int32)).toInt64)).toInt = v.toInt + (s >>> ((1 : Int32) &&& 31)).toInt % 2 ^ 9 := by
      rw [Jvm.Kit.i64_add (by rw [Jvm.Kit.i64_of_i32, mk]; omega) (by rw [Jvm.Kit.i64_of_i32, mk]; omega), Jvm.Kit.i64_of_i32, mk]
    rw [Jvm.Kit.i64_sub (by rw [a, e1]; omega) (by rw [a, e1]; omega), a, e1]
    omega
  · right
    have mk := Jvm.Kit.i64_mask w (2305843009213693951 : Int64) (k := 61) (by decide) (by decide)
    rw [mk]; omega
theorem own_d4 {v n d : Int64} (h : d = (4 : Int64) * (n - v)) (h0 : 4503599627370496 ≤ v.toInt) (h1 : v.toInt < 2 ^ 60) (hn : (v.toInt - 256 ≤ n.toInt ∧ n.toInt ≤ v.toInt + 255) ∨ (0 ≤ n.toInt ∧ n.toInt < 2 ^ 61)) : d.toInt = 4 * (n.toInt - v.toInt) := by
  have e4 : (4 : Int64).toInt = 4 := by decide
  have s : (n - v).toInt = n.toInt - v.toInt := Jvm.Kit.i64_sub (by omega) (by omega)
  rw [h, Jvm.Kit.i64_mul (by rw [e4, s]; omega) (by rw [e4, s]; omega), e4, s]
theorem own_shg {x v r : Int64} {a : Int32} {sh : Nat} (h0 : 0 ≤ x.toInt) (h1 : x.toInt < 2 ^ 55) (ha : a.toInt = (sh : Int)) (hs : sh ≤ 6) (hv : v = x * (1 : Int64)) (hr : r = v <<< ((a + (1 : Int32)) &&& 0x3f).toInt64) : r.toInt = x.toInt * 2 ^ (sh + 1) := by
  rw [own_one] at hv
  subst hv
  have ha' : a = Int32.ofNat sh := Int32.toInt_inj.mp (by rw [ha, Int32.toInt_ofNat_of_lt (by omega)])
  have : sh = 0 ∨ sh = 1 ∨ sh = 2 ∨ sh = 3 ∨ sh = 4 ∨ sh = 5 ∨ sh = 6 := by omega
  rcases this with rfl | rfl | rfl | rfl | rfl | rfl | rfl <;> (subst ha'; rw [hr]; exact Jvm.Kit.i64_shl v _ (by decide) (by omega) (by omega))
theorem own_shl8 {m v : Int64} {e : Int32} (hv : v = m <<< (e &&& 0x3f).toInt64) (h1 : 4503599627370496 ≤ m.toInt) (h2 : m.toInt < 9007199254740992) (hc : e = (0 : Int32) ∨ e = (1 : Int32) ∨ e = (2 : Int32) ∨ e = (3 : Int32) ∨ e = (4 : Int32) ∨ e = (5 : Int32) ∨ e = (6 : Int32) ∨ e = (7 : Int32)) :
    v.toInt = m.toInt * 2 ^ e.toInt.toNat ∧ e.toInt.toNat ≤ 7 ∧ 4503599627370496 ≤ v.toInt ∧ v.toInt < 2 ^ 60 := by
  have k : ∀ j : Nat, j ≤ 7 → e.toInt.toNat = j → v.toInt = m.toInt * 2 ^ j → v.toInt = m.toInt * 2 ^ e.toInt.toNat ∧ e.toInt.toNat ≤ 7 ∧ 4503599627370496 ≤ v.toInt ∧ v.toInt < 2 ^ 60 := by
    intro j hj he hq
    rw [he]
    refine ⟨hq, hj, ?_, ?_⟩
    · have : j = 0 ∨ j = 1 ∨ j = 2 ∨ j = 3 ∨ j = 4 ∨ j = 5 ∨ j = 6 ∨ j = 7 := by omega
      rcases this with rfl | rfl | rfl | rfl | rfl | rfl | rfl | rfl <;> omega
    · have : j = 0 ∨ j = 1 ∨ j = 2 ∨ j = 3 ∨ j = 4 ∨ j = 5 ∨ j = 6 ∨ j = 7 := by omega
      rcases this with rfl | rfl | rfl | rfl | rfl | rfl | rfl | rfl <;> omega
  rcases hc with rfl | rfl | rfl | rfl | rfl | rfl | rfl | rfl
  · exact k 0 (by decide) (by decide) (by rw [hv]; exact Jvm.Kit.i64_shl m _ (by decide) (by omega) (by omega))
  · exact k 1 (by decide) (by decide) (by rw [hv]; exact Jvm.Kit.i64_shl m _ (by decide) (by omega) (by omega))
  · exact k 2 (by decide) (by decide) (by rw [hv]; exact Jvm.Kit.i64_shl m _ (by decide) (by omega) (by omega))
  · exact k 3 (by decide) (by decide) (by rw [hv]; exact Jvm.Kit.i64_shl m _ (by decide) (by omega) (by omega))
  · exact k 4 (by decide) (by decide) (by rw [hv]; exact Jvm.Kit.i64_shl m _ (by decide) (by omega) (by omega))
  · exact k 5 (by decide) (by decide) (by rw [hv]; exact Jvm.Kit.i64_shl m _ (by decide) (by omega) (by omega))
  · exact k 6 (by decide) (by decide) (by rw [hv]; exact Jvm.Kit.i64_shl m _ (by decide) (by omega) (by omega))
  · exact k 7 (by decide) (by decide) (by rw [hv]; exact Jvm.Kit.i64_shl m _ (by decide) (by omega) (by omega))
theorem own_e3 {r : Int32} {ee : Nat} (h : r.toInt = (ee : Int)) : r = (0 : Int32) ∨ r = (1 : Int32) ∨ 2 ≤ r.toInt := by
  simp only [← Int32.toInt_inj, Int32.reduceToInt]
  omega
theorem own_sb {r : Int32} {ee k : Nat} (h : r.toInt = (ee : Int)) (h2 : 2 ≤ r.toInt) (he : ee ≤ 7) (hk : k ≤ 2) {c : Int32} (hc : c.toInt = (k : Int)) : (r - c).toInt = ((ee - k : Nat) : Int) ∧ ee - k ≤ 7 := by
  rw [Jvm.Kit.i32_sub (by omega) (by omega), hc]
  omega
theorem own_len {args : Array Value} {first s : State} {o : Option Outcome} {idx : List Nat} {t : Term} {x : Addr} {cl : Cell} {v : Value} (ht : t.eval args first o idx s = some (.ref x)) (ha : s.arrayAt? x = some cl) (h : (Term.length t).eval args first o idx s = some v) : cl.slots.size < 2 ^ 31 := by
  simp [Term.eval, ht, ha] at h
  omega

/-! body 7 -/
theorem d7_0 : decode jdk_29_method_45_code 0 = .ok (.lload_n 0, 1) := by decide +kernel
theorem d7_1 : decode jdk_29_method_45_code 1 = .ok (.bipush 32, 2) := by decide +kernel
theorem d7_3 : decode jdk_29_method_45_code 3 = .ok (.lshr, 1) := by decide +kernel
theorem d7_4 : decode jdk_29_method_45_code 4 = .ok (.lstore 4, 2) := by decide +kernel
theorem d7_6 : decode jdk_29_method_45_code 6 = .ok (.lload_n 0, 1) := by decide +kernel
theorem d7_7 : decode jdk_29_method_45_code 7 = .ok (.ldc2_w 138, 3) := by decide +kernel
theorem d7_10 : decode jdk_29_method_45_code 10 = .ok (.land, 1) := by decide +kernel
theorem d7_11 : decode jdk_29_method_45_code 11 = .ok (.lstore 6, 2) := by decide +kernel
theorem d7_13 : decode jdk_29_method_45_code 13 = .ok (.lload_n 2, 1) := by decide +kernel
theorem d7_14 : decode jdk_29_method_45_code 14 = .ok (.bipush 32, 2) := by decide +kernel
theorem d7_16 : decode jdk_29_method_45_code 16 = .ok (.lshr, 1) := by decide +kernel
theorem d7_17 : decode jdk_29_method_45_code 17 = .ok (.lstore 8, 2) := by decide +kernel
theorem d7_19 : decode jdk_29_method_45_code 19 = .ok (.lload_n 2, 1) := by decide +kernel
theorem d7_20 : decode jdk_29_method_45_code 20 = .ok (.ldc2_w 138, 3) := by decide +kernel
theorem d7_23 : decode jdk_29_method_45_code 23 = .ok (.land, 1) := by decide +kernel
theorem d7_24 : decode jdk_29_method_45_code 24 = .ok (.lstore 10, 2) := by decide +kernel
theorem d7_26 : decode jdk_29_method_45_code 26 = .ok (.lload 6, 2) := by decide +kernel
theorem d7_28 : decode jdk_29_method_45_code 28 = .ok (.lload 10, 2) := by decide +kernel
theorem d7_30 : decode jdk_29_method_45_code 30 = .ok (.lmul, 1) := by decide +kernel
theorem d7_31 : decode jdk_29_method_45_code 31 = .ok (.lstore 12, 2) := by decide +kernel
theorem d7_33 : decode jdk_29_method_45_code 33 = .ok (.lload 4, 2) := by decide +kernel
theorem d7_35 : decode jdk_29_method_45_code 35 = .ok (.lload 10, 2) := by decide +kernel
theorem d7_37 : decode jdk_29_method_45_code 37 = .ok (.lmul, 1) := by decide +kernel
theorem d7_38 : decode jdk_29_method_45_code 38 = .ok (.lload 12, 2) := by decide +kernel
theorem d7_40 : decode jdk_29_method_45_code 40 = .ok (.bipush 32, 2) := by decide +kernel
theorem d7_42 : decode jdk_29_method_45_code 42 = .ok (.lushr, 1) := by decide +kernel
theorem d7_43 : decode jdk_29_method_45_code 43 = .ok (.ladd, 1) := by decide +kernel
theorem d7_44 : decode jdk_29_method_45_code 44 = .ok (.lstore 14, 2) := by decide +kernel
theorem d7_46 : decode jdk_29_method_45_code 46 = .ok (.lload 14, 2) := by decide +kernel
theorem d7_48 : decode jdk_29_method_45_code 48 = .ok (.ldc2_w 138, 3) := by decide +kernel
theorem d7_51 : decode jdk_29_method_45_code 51 = .ok (.land, 1) := by decide +kernel
theorem d7_52 : decode jdk_29_method_45_code 52 = .ok (.lstore 16, 2) := by decide +kernel
theorem d7_54 : decode jdk_29_method_45_code 54 = .ok (.lload 14, 2) := by decide +kernel
theorem d7_56 : decode jdk_29_method_45_code 56 = .ok (.bipush 32, 2) := by decide +kernel
theorem d7_58 : decode jdk_29_method_45_code 58 = .ok (.lshr, 1) := by decide +kernel
theorem d7_59 : decode jdk_29_method_45_code 59 = .ok (.lstore 18, 2) := by decide +kernel
theorem d7_61 : decode jdk_29_method_45_code 61 = .ok (.lload 16, 2) := by decide +kernel
theorem d7_63 : decode jdk_29_method_45_code 63 = .ok (.lload 6, 2) := by decide +kernel
theorem d7_65 : decode jdk_29_method_45_code 65 = .ok (.lload 8, 2) := by decide +kernel
theorem d7_67 : decode jdk_29_method_45_code 67 = .ok (.lmul, 1) := by decide +kernel
theorem d7_68 : decode jdk_29_method_45_code 68 = .ok (.ladd, 1) := by decide +kernel
theorem d7_69 : decode jdk_29_method_45_code 69 = .ok (.lstore 16, 2) := by decide +kernel
theorem d7_71 : decode jdk_29_method_45_code 71 = .ok (.lload 4, 2) := by decide +kernel
theorem d7_73 : decode jdk_29_method_45_code 73 = .ok (.lload 8, 2) := by decide +kernel
theorem d7_75 : decode jdk_29_method_45_code 75 = .ok (.lmul, 1) := by decide +kernel
theorem d7_76 : decode jdk_29_method_45_code 76 = .ok (.lload 18, 2) := by decide +kernel
theorem d7_78 : decode jdk_29_method_45_code 78 = .ok (.ladd, 1) := by decide +kernel
theorem d7_79 : decode jdk_29_method_45_code 79 = .ok (.lload 16, 2) := by decide +kernel
theorem d7_81 : decode jdk_29_method_45_code 81 = .ok (.bipush 32, 2) := by decide +kernel
theorem d7_83 : decode jdk_29_method_45_code 83 = .ok (.lshr, 1) := by decide +kernel
theorem d7_84 : decode jdk_29_method_45_code 84 = .ok (.ladd, 1) := by decide +kernel
theorem d7_85 : decode jdk_29_method_45_code 85 = .ok (.lreturn, 1) := by decide +kernel
theorem ef_7 (m : MethodId) (q1 : Int64) : entryFrame m #[(.long q1), (.long (1 : Int64))] 20 = mkF m 0 #[.val (.long q1), .second, .val (.long (1 : Int64)), .second, .unset, .unset, .unset, .unset, .unset, .unset, .unset, .unset, .unset, .unset, .unset, .unset, .unset, .unset, .unset, .unset] [] := by first | (simp [entryFrame, mkF, argsToLocals, Value.category]; done) | rfl
def Q7 (Z : State) (q1 : Int64) (h0 : Heap) (n0 : Nat) (v : Option Value) (h : Heap) (L : List Loc) : Prop := ∃ r : Int64, v = some (.long r) ∧ Fr n0 L ∧ h = h0 ∧ (r = (0 : Int64))
set_option maxRecDepth 65536 in
set_option maxHeartbeats 40000000 in
theorem rm7 (l : Launch) (Z : State) (a0 : Array Value) (hw : ∀ d ∈ tables_1, d.before a0 Z = true) (ws : List Jvm.Cond) (q1 : Int64) (h0 : Heap) (n0 : Nat) (Z0 : n0 ≤ h0.size) (hx0 : 0 ≤ q1.toInt ∧ q1.toInt < 2 ^ 55) :
    MetFree l (⟨"java/lang/Math", "multiplyHigh", "(JJ)J"⟩ : MethodName) (head1 (Jvm.Cond.code (⟨"java/lang/Math", "multiplyHigh", "(JJ)J"⟩ : MethodName) jdk_29_method_45_code 20 (some .long) :: ws) ({ frames := 0, cells := 0, slots := 0, locals := 0 } : Room)) (fun a U => a = #[(.long q1), (.long (1 : Int64))] ∧ Z.Warmed39 U.vm ∧ U.heap = h0) (fun _ _ _ _ _ => True) (fun _ U o U' => ∃ v L, o = .returned v ∧ Q7 Z q1 h0 n0 v U'.heap L ∧ FrameEnd U o U' L ({ frames := 0, cells := 0, slots := 0, locals := 0 } : Room).cells ({ frames := 0, cells := 0, slots := 0, locals := 0 } : Room).slots) := by
  refine MetFree.of_bodySF (Jvm.Free.JP.mathPlain rfl (by decide +kernel)) hisR ?_
  intro p e s m args below meth c s₁ Bd hml0 hP hK
  obtain ⟨rfl, hZ, hh⟩ := hP
  have hx := Bd.exec
  have hby := Bd.bytes
  have hml : c.maxLocals = 20 := hml0
  have hown : s.vm.findClass "java/lang/Math" = some m.cls := findClass_of_methodNamed Bd.named
  have hnm := (name_of_methodNamed Bd.named Bd.method).1
  have X0 : Stand p l e ({ frames := 0, cells := 0, slots := 0, locals := 0 } : Room) s m #[(.long q1), (.long (1 : Int64))] below meth c s₁ [] 0 0 := Stand.of_body Bd
  have e0 : s₁.heap = h0 := by rw [← hh, Bd.state]; rfl
  have N0 := Fr.nil n0
  have pre0 : ∀ tq, Steps p.tables e below (s₁.setTop (mkF m 0 #[.val (.long q1), .second, .val (.long (1 : Int64)), .second, .unset, .unset, .unset, .unset, .unset, .unset, .unset, .unset, .unset, .unset, .unset, .unset, .unset, .unset, .unset, .unset] [])) tq → Steps p.tables e below (s₁.setTop (entryFrame m #[(.long q1), (.long (1 : Int64))] 20)) tq := fun tq kq => castTop (ef_7 m q1) kq
  obtain ⟨v2, hv_v2, pre1⟩ : ∃ v2 : Int64, v2 = (q1 >>> ((32 : Int32) &&& 0x3f).toInt64) ∧ (∀ tq, Steps p.tables e below (s₁.setTop (mkF m 6 #[.val (.long q1), .second, .val (.long (1 : Int64)), .second, .val (.long v2), .second, .unset, .unset, .unset, .unset, .unset, .unset, .unset, .unset, .unset, .unset, .unset, .unset, .unset, .unset] [])) tq → Steps p.tables e below (s₁.setTop (entryFrame m #[(.long q1), (.long (1 : Int64))] 20)) tq) := by
    refine ⟨_, rfl, fun tq kq => pre0 tq ?_⟩
    show Steps p.tables e below (s₁.setTop (mkF m 0 #[.val (.long q1), .second, .val (.long (1 : Int64)), .second, .unset, .unset, .unset, .unset, .unset, .unset, .unset, .unset, .unset, .unset, .unset, .unset, .unset, .unset, .unset, .unset] [])) _
    refine XS.lloadN X0.here hx rfl (hb hby d7_0) rfl ?_
    show Steps p.tables e below (s₁.setTop (mkF m 1 #[.val (.long q1), .second, .val (.long (1 : Int64)), .second, .unset, .unset, .unset, .unset, .unset, .unset, .unset, .unset, .unset, .unset, .unset, .unset, .unset, .unset, .unset, .unset] [(.long q1)])) _
    refine XS.bipush X0.here hx rfl (hb hby d7_1) ?_
    show Steps p.tables e below (s₁.setTop (mkF m 3 #[.val (.long q1), .second, .val (.long (1 : Int64)), .second, .unset, .unset, .unset, .unset, .unset, .unset, .unset, .unset, .unset, .unset, .unset, .unset, .unset, .unset, .unset, .unset] [(.int (32 : Int32)), (.long q1)])) _
    refine XS.lshr X0.here hx rfl (hb hby d7_3) rfl ?_
    show Steps p.tables e below (s₁.setTop (mkF m 4 #[.val (.long q1), .second, .val (.long (1 : Int64)), .second, .unset, .unset, .unset, .unset, .unset, .unset, .unset, .unset, .unset, .unset, .unset, .unset, .unset, .unset, .unset, .unset] [(.long (q1 >>> ((32 : Int32) &&& 0x3f).toInt64))])) _
    refine XS.lstore X0.here hx rfl (hb hby d7_4) rfl (l' := #[.val (.long q1), .second, .val (.long (1 : Int64)), .second, .val (.long (q1 >>> ((32 : Int32) &&& 0x3f).toInt64)), .second, .unset, .unset, .unset, .unset, .unset, .unset, .unset, .unset, .unset, .unset, .unset, .unset, .unset, .unset]) rfl ?_
    exact kq
  obtain ⟨v4, hv_v4, pre3⟩ : ∃ v4 : Int64, v4 = (q1 &&& (4294967295 : Int64)) ∧ (∀ tq, Steps p.tables e below (s₁.setTop (mkF m 13 #[.val (.long q1), .second, .val (.long (1 : Int64)), .second, .val (.long v2), .second, .val (.long v4), .second, .unset, .unset, .unset, .unset, .unset, .unset, .unset, .unset, .unset, .unset, .unset, .unset] [])) tq → Steps p.tables e below (s₁.setTop (entryFrame m #[(.long q1), (.long (1 : Int64))] 20)) tq) := by
    refine ⟨_, rfl, fun tq kq => pre1 tq ?_⟩
    show Steps p.tables e below (s₁.setTop (mkF m 6 #[.val (.long q1), .second, .val (.long (1 : Int64)), .second, .val (.long v2), .second, .unset, .unset, .unset, .unset, .unset, .unset, .unset, .unset, .unset, .unset, .unset, .unset, .unset, .unset] [])) _
    refine XS.lloadN X0.here hx rfl (hb hby d7_6) rfl ?_
    show Steps p.tables e below (s₁.setTop (mkF m 7 #[.val (.long q1), .second, .val (.long (1 : Int64)), .second, .val (.long v2), .second, .unset, .unset, .unset, .unset, .unset, .unset, .unset, .unset, .unset, .unset, .unset, .unset, .unset, .unset] [(.long q1)])) _
    refine X0.ldc2Long hx hown (mvT hZ (hw _ (List.mem_of_getElem? (i := 35) rfl))) (g := (mkF m 7 #[.val (.long q1), .second, .val (.long (1 : Int64)), .second, .val (.long v2), .second, .unset, .unset, .unset, .unset, .unset, .unset, .unset, .unset, .unset, .unset, .unset, .unset, .unset, .unset] [(.long q1)])) rfl (hb hby d7_7) _ ?_
    show Steps p.tables e below (s₁.setTop (mkF m 10 #[.val (.long q1), .second, .val (.long (1 : Int64)), .second, .val (.long v2), .second, .unset, .unset, .unset, .unset, .unset, .unset, .unset, .unset, .unset, .unset, .unset, .unset, .unset, .unset] [(.long (4294967295 : Int64)), (.long q1)])) _
    refine XS.land X0.here hx rfl (hb hby d7_10) rfl ?_
    show Steps p.tables e below (s₁.setTop (mkF m 11 #[.val (.long q1), .second, .val (.long (1 : Int64)), .second, .val (.long v2), .second, .unset, .unset, .unset, .unset, .unset, .unset, .unset, .unset, .unset, .unset, .unset, .unset, .unset, .unset] [(.long (q1 &&& (4294967295 : Int64)))])) _
    refine XS.lstore X0.here hx rfl (hb hby d7_11) rfl (l' := #[.val (.long q1), .second, .val (.long (1 : Int64)), .second, .val (.long v2), .second, .val (.long (q1 &&& (4294967295 : Int64))), .second, .unset, .unset, .unset, .unset, .unset, .unset, .unset, .unset, .unset, .unset, .unset, .unset]) rfl ?_
    exact kq
  obtain ⟨v6, hv_v6, pre5⟩ : ∃ v6 : Int64, v6 = ((1 : Int64) >>> ((32 : Int32) &&& 0x3f).toInt64) ∧ (∀ tq, Steps p.tables e below (s₁.setTop (mkF m 19 #[.val (.long q1), .second, .val (.long (1 : Int64)), .second, .val (.long v2), .second, .val (.long v4), .second, .val (.long v6), .second, .unset, .unset, .unset, .unset, .unset, .unset, .unset, .unset, .unset, .unset] [])) tq → Steps p.tables e below (s₁.setTop (entryFrame m #[(.long q1), (.long (1 : Int64))] 20)) tq) := by
    refine ⟨_, rfl, fun tq kq => pre3 tq ?_⟩
    show Steps p.tables e below (s₁.setTop (mkF m 13 #[.val (.long q1), .second, .val (.long (1 : Int64)), .second, .val (.long v2), .second, .val (.long v4), .second, .unset, .unset, .unset, .unset, .unset, .unset, .unset, .unset, .unset, .unset, .unset, .unset] [])) _
    refine XS.lloadN X0.here hx rfl (hb hby d7_13) rfl ?_
    show Steps p.tables e below (s₁.setTop (mkF m 14 #[.val (.long q1), .second, .val (.long (1 : Int64)), .second, .val (.long v2), .second, .val (.long v4), .second, .unset, .unset, .unset, .unset, .unset, .unset, .unset, .unset, .unset, .unset, .unset, .unset] [(.long (1 : Int64))])) _
    refine XS.bipush X0.here hx rfl (hb hby d7_14) ?_
    show Steps p.tables e below (s₁.setTop (mkF m 16 #[.val (.long q1), .second, .val (.long (1 : Int64)), .second, .val (.long v2), .second, .val (.long v4), .second, .unset, .unset, .unset, .unset, .unset, .unset, .unset, .unset, .unset, .unset, .unset, .unset] [(.int (32 : Int32)), (.long (1 : Int64))])) _
    refine XS.lshr X0.here hx rfl (hb hby d7_16) rfl ?_
    show Steps p.tables e below (s₁.setTop (mkF m 17 #[.val (.long q1), .second, .val (.long (1 : Int64)), .second, .val (.long v2), .second, .val (.long v4), .second, .unset, .unset, .unset, .unset, .unset, .unset, .unset, .unset, .unset, .unset, .unset, .unset] [(.long ((1 : Int64) >>> ((32 : Int32) &&& 0x3f).toInt64))])) _
    refine XS.lstore X0.here hx rfl (hb hby d7_17) rfl (l' := #[.val (.long q1), .second, .val (.long (1 : Int64)), .second, .val (.long v2), .second, .val (.long v4), .second, .val (.long ((1 : Int64) >>> ((32 : Int32) &&& 0x3f).toInt64)), .second, .unset, .unset, .unset, .unset, .unset, .unset, .unset, .unset, .unset, .unset]) rfl ?_
    exact kq
  obtain ⟨v8, hv_v8, pre7⟩ : ∃ v8 : Int64, v8 = ((1 : Int64) &&& (4294967295 : Int64)) ∧ (∀ tq, Steps p.tables e below (s₁.setTop (mkF m 26 #[.val (.long q1), .second, .val (.long (1 : Int64)), .second, .val (.long v2), .second, .val (.long v4), .second, .val (.long v6), .second, .val (.long v8), .second, .unset, .unset, .unset, .unset, .unset, .unset, .unset, .unset] [])) tq → Steps p.tables e below (s₁.setTop (entryFrame m #[(.long q1), (.long (1 : Int64))] 20)) tq) := by
    refine ⟨_, rfl, fun tq kq => pre5 tq ?_⟩
    show Steps p.tables e below (s₁.setTop (mkF m 19 #[.val (.long q1), .second, .val (.long (1 : Int64)), .second, .val (.long v2), .second, .val (.long v4), .second, .val (.long v6), .second, .unset, .unset, .unset, .unset, .unset, .unset, .unset, .unset, .unset, .unset] [])) _
    refine XS.lloadN X0.here hx rfl (hb hby d7_19) rfl ?_
    show Steps p.tables e below (s₁.setTop (mkF m 20 #[.val (.long q1), .second, .val (.long (1 : Int64)), .second, .val (.long v2), .second, .val (.long v4), .second, .val (.long v6), .second, .unset, .unset, .unset, .unset, .unset, .unset, .unset, .unset, .unset, .unset] [(.long (1 : Int64))])) _
    refine X0.ldc2Long hx hown (mvT hZ (hw _ (List.mem_of_getElem? (i := 35) rfl))) (g := (mkF m 20 #[.val (.long q1), .second, .val (.long (1 : Int64)), .second, .val (.long v2), .second, .val (.long v4), .second, .val (.long v6), .second, .unset, .unset, .unset, .unset, .unset, .unset, .unset, .unset, .unset, .unset] [(.long (1 : Int64))])) rfl (hb hby d7_20) _ ?_
    show Steps p.tables e below (s₁.setTop (mkF m 23 #[.val (.long q1), .second, .val (.long (1 : Int64)), .second, .val (.long v2), .second, .val (.long v4), .second, .val (.long v6), .second, .unset, .unset, .unset, .unset, .unset, .unset, .unset, .unset, .unset, .unset] [(.long (4294967295 : Int64)), (.long (1 : Int64))])) _
    refine XS.land X0.here hx rfl (hb hby d7_23) rfl ?_
    show Steps p.tables e below (s₁.setTop (mkF m 24 #[.val (.long q1), .second, .val (.long (1 : Int64)), .second, .val (.long v2), .second, .val (.long v4), .second, .val (.long v6), .second, .unset, .unset, .unset, .unset, .unset, .unset, .unset, .unset, .unset, .unset] [(.long ((1 : Int64) &&& (4294967295 : Int64)))])) _
    refine XS.lstore X0.here hx rfl (hb hby d7_24) rfl (l' := #[.val (.long q1), .second, .val (.long (1 : Int64)), .second, .val (.long v2), .second, .val (.long v4), .second, .val (.long v6), .second, .val (.long ((1 : Int64) &&& (4294967295 : Int64))), .second, .unset, .unset, .unset, .unset, .unset, .unset, .unset, .unset]) rfl ?_
    exact kq
  obtain ⟨v10, hv_v10, pre9⟩ : ∃ v10 : Int64, v10 = (v4 * v8) ∧ (∀ tq, Steps p.tables e below (s₁.setTop (mkF m 33 #[.val (.long q1), .second, .val (.long (1 : Int64)), .second, .val (.long v2), .second, .val (.long v4), .second, .val (.long v6), .second, .val (.long v8), .second, .val (.long v10), .second, .unset, .unset, .unset, .unset, .unset, .unset] [])) tq → Steps p.tables e below (s₁.setTop (entryFrame m #[(.long q1), (.long (1 : Int64))] 20)) tq) := by
    refine ⟨_, rfl, fun tq kq => pre7 tq ?_⟩
    show Steps p.tables e below (s₁.setTop (mkF m 26 #[.val (.long q1), .second, .val (.long (1 : Int64)), .second, .val (.long v2), .second, .val (.long v4), .second, .val (.long v6), .second, .val (.long v8), .second, .unset, .unset, .unset, .unset, .unset, .unset, .unset, .unset] [])) _
    refine XS.lload X0.here hx rfl (hb hby d7_26) rfl ?_
    show Steps p.tables e below (s₁.setTop (mkF m 28 #[.val (.long q1), .second, .val (.long (1 : Int64)), .second, .val (.long v2), .second, .val (.long v4), .second, .val (.long v6), .second, .val (.long v8), .second, .unset, .unset, .unset, .unset, .unset, .unset, .unset, .unset] [(.long v4)])) _
    refine XS.lload X0.here hx rfl (hb hby d7_28) rfl ?_
    show Steps p.tables e below (s₁.setTop (mkF m 30 #[.val (.long q1), .second, .val (.long (1 : Int64)), .second, .val (.long v2), .second, .val (.long v4), .second, .val (.long v6), .second, .val (.long v8), .second, .unset, .unset, .unset, .unset, .unset, .unset, .unset, .unset] [(.long v8), (.long v4)])) _
    refine XS.lmul X0.here hx rfl (hb hby d7_30) rfl ?_
    show Steps p.tables e below (s₁.setTop (mkF m 31 #[.val (.long q1), .second, .val (.long (1 : Int64)), .second, .val (.long v2), .second, .val (.long v4), .second, .val (.long v6), .second, .val (.long v8), .second, .unset, .unset, .unset, .unset, .unset, .unset, .unset, .unset] [(.long (v4 * v8))])) _
    refine XS.lstore X0.here hx rfl (hb hby d7_31) rfl (l' := #[.val (.long q1), .second, .val (.long (1 : Int64)), .second, .val (.long v2), .second, .val (.long v4), .second, .val (.long v6), .second, .val (.long v8), .second, .val (.long (v4 * v8)), .second, .unset, .unset, .unset, .unset, .unset, .unset]) rfl ?_
    exact kq
  obtain ⟨v12, hv_v12, pre11⟩ : ∃ v12 : Int64, v12 = ((v2 * v8) + ((v10.toUInt64 >>> ((32 : Int32) &&& 0x3f).toInt64.toUInt64).toInt64)) ∧ (∀ tq, Steps p.tables e below (s₁.setTop (mkF m 46 #[.val (.long q1), .second, .val (.long (1 : Int64)), .second, .val (.long v2), .second, .val (.long v4), .second, .val (.long v6), .second, .val (.long v8), .second, .val (.long v10), .second, .val (.long v12), .second, .unset, .unset, .unset, .unset] [])) tq → Steps p.tables e below (s₁.setTop (entryFrame m #[(.long q1), (.long (1 : Int64))] 20)) tq) := by
    refine ⟨_, rfl, fun tq kq => pre9 tq ?_⟩
    show Steps p.tables e below (s₁.setTop (mkF m 33 #[.val (.long q1), .second, .val (.long (1 : Int64)), .second, .val (.long v2), .second, .val (.long v4), .second, .val (.long v6), .second, .val (.long v8), .second, .val (.long v10), .second, .unset, .unset, .unset, .unset, .unset, .unset] [])) _
    refine XS.lload X0.here hx rfl (hb hby d7_33) rfl ?_
    show Steps p.tables e below (s₁.setTop (mkF m 35 #[.val (.long q1), .second, .val (.long (1 : Int64)), .second, .val (.long v2), .second, .val (.long v4), .second, .val (.long v6), .second, .val (.long v8), .second, .val (.long v10), .second, .unset, .unset, .unset, .unset, .unset, .unset] [(.long v2)])) _
    refine XS.lload X0.here hx rfl (hb hby d7_35) rfl ?_
    show Steps p.tables e below (s₁.setTop (mkF m 37 #[.val (.long q1), .second, .val (.long (1 : Int64)), .second, .val (.long v2), .second, .val (.long v4), .second, .val (.long v6), .second, .val (.long v8), .second, .val (.long v10), .second, .unset, .unset, .unset, .unset, .unset, .unset] [(.long v8), (.long v2)])) _
    refine XS.lmul X0.here hx rfl (hb hby d7_37) rfl ?_
    show Steps p.tables e below (s₁.setTop (mkF m 38 #[.val (.long q1), .second, .val (.long (1 : Int64)), .second, .val (.long v2), .second, .val (.long v4), .second, .val (.long v6), .second, .val (.long v8), .second, .val (.long v10), .second, .unset, .unset, .unset, .unset, .unset, .unset] [(.long (v2 * v8))])) _
    refine XS.lload X0.here hx rfl (hb hby d7_38) rfl ?_
    show Steps p.tables e below (s₁.setTop (mkF m 40 #[.val (.long q1), .second, .val (.long (1 : Int64)), .second, .val (.long v2), .second, .val (.long v4), .second, .val (.long v6), .second, .val (.long v8), .second, .val (.long v10), .second, .unset, .unset, .unset, .unset, .unset, .unset] [(.long v10), (.long (v2 * v8))])) _
    refine XS.bipush X0.here hx rfl (hb hby d7_40) ?_
    show Steps p.tables e below (s₁.setTop (mkF m 42 #[.val (.long q1), .second, .val (.long (1 : Int64)), .second, .val (.long v2), .second, .val (.long v4), .second, .val (.long v6), .second, .val (.long v8), .second, .val (.long v10), .second, .unset, .unset, .unset, .unset, .unset, .unset] [(.int (32 : Int32)), (.long v10), (.long (v2 * v8))])) _
    refine XS.lushr X0.here hx rfl (hb hby d7_42) rfl ?_
    show Steps p.tables e below (s₁.setTop (mkF m 43 #[.val (.long q1), .second, .val (.long (1 : Int64)), .second, .val (.long v2), .second, .val (.long v4), .second, .val (.long v6), .second, .val (.long v8), .second, .val (.long v10), .second, .unset, .unset, .unset, .unset, .unset, .unset] [(.long ((v10.toUInt64 >>> ((32 : Int32) &&& 0x3f).toInt64.toUInt64).toInt64)), (.long (v2 * v8))])) _
    refine XS.ladd X0.here hx rfl (hb hby d7_43) rfl ?_
    show Steps p.tables e below (s₁.setTop (mkF m 44 #[.val (.long q1), .second, .val (.long (1 : Int64)), .second, .val (.long v2), .second, .val (.long v4), .second, .val (.long v6), .second, .val (.long v8), .second, .val (.long v10), .second, .unset, .unset, .unset, .unset, .unset, .unset] [(.long ((v2 * v8) + ((v10.toUInt64 >>> ((32 : Int32) &&& 0x3f).toInt64.toUInt64).toInt64)))])) _
    refine XS.lstore X0.here hx rfl (hb hby d7_44) rfl (l' := #[.val (.long q1), .second, .val (.long (1 : Int64)), .second, .val (.long v2), .second, .val (.long v4), .second, .val (.long v6), .second, .val (.long v8), .second, .val (.long v10), .second, .val (.long ((v2 * v8) + ((v10.toUInt64 >>> ((32 : Int32) &&& 0x3f).toInt64.toUInt64).toInt64))), .second, .unset, .unset, .unset, .unset]) rfl ?_
    exact kq
  obtain ⟨v14, hv_v14, pre13⟩ : ∃ v14 : Int64, v14 = (v12 &&& (4294967295 : Int64)) ∧ (∀ tq, Steps p.tables e below (s₁.setTop (mkF m 54 #[.val (.long q1), .second, .val (.long (1 : Int64)), .second, .val (.long v2), .second, .val (.long v4), .second, .val (.long v6), .second, .val (.long v8), .second, .val (.long v10), .second, .val (.long v12), .second, .val (.long v14), .second, .unset, .unset] [])) tq → Steps p.tables e below (s₁.setTop (entryFrame m #[(.long q1), (.long (1 : Int64))] 20)) tq) := by
    refine ⟨_, rfl, fun tq kq => pre11 tq ?_⟩
    show Steps p.tables e below (s₁.setTop (mkF m 46 #[.val (.long q1), .second, .val (.long (1 : Int64)), .second, .val (.long v2), .second, .val (.long v4), .second, .val (.long v6), .second, .val (.long v8), .second, .val (.long v10), .second, .val (.long v12), .second, .unset, .unset, .unset, .unset] [])) _
    refine XS.lload X0.here hx rfl (hb hby d7_46) rfl ?_
    show Steps p.tables e below (s₁.setTop (mkF m 48 #[.val (.long q1), .second, .val (.long (1 : Int64)), .second, .val (.long v2), .second, .val (.long v4), .second, .val (.long v6), .second, .val (.long v8), .second, .val (.long v10), .second, .val (.long v12), .second, .unset, .unset, .unset, .unset] [(.long v12)])) _
    refine X0.ldc2Long hx hown (mvT hZ (hw _ (List.mem_of_getElem? (i := 35) rfl))) (g := (mkF m 48 #[.val (.long q1), .second, .val (.long (1 : Int64)), .second, .val (.long v2), .second, .val (.long v4), .second, .val (.long v6), .second, .val (.long v8), .second, .val (.long v10), .second, .val (.long v12), .second, .unset, .unset, .unset, .unset] [(.long v12)])) rfl (hb hby d7_48) _ ?_
    show Steps p.tables e below (s₁.setTop (mkF m 51 #[.val (.long q1), .second, .val (.long (1 : Int64)), .second, .val (.long v2), .second, .val (.long v4), .second, .val (.long v6), .second, .val (.long v8), .second, .val (.long v10), .second, .val (.long v12), .second, .unset, .unset, .unset, .unset] [(.long (4294967295 : Int64)), (.long v12)])) _
    refine XS.land X0.here hx rfl (hb hby d7_51) rfl ?_
    show Steps p.tables e below (s₁.setTop (mkF m 52 #[.val (.long q1), .second, .val (.long (1 : Int64)), .second, .val (.long v2), .second, .val (.long v4), .second, .val (.long v6), .second, .val (.long v8), .second, .val (.long v10), .second, .val (.long v12), .second, .unset, .unset, .unset, .unset] [(.long (v12 &&& (4294967295 : Int64)))])) _
    refine XS.lstore X0.here hx rfl (hb hby d7_52) rfl (l' := #[.val (.long q1), .second, .val (.long (1 : Int64)), .second, .val (.long v2), .second, .val (.long v4), .second, .val (.long v6), .second, .val (.long v8), .second, .val (.long v10), .second, .val (.long v12), .second, .val (.long (v12 &&& (4294967295 : Int64))), .second, .unset, .unset]) rfl ?_
    exact kq
  obtain ⟨v16, hv_v16, pre15⟩ : ∃ v16 : Int64, v16 = (v12 >>> ((32 : Int32) &&& 0x3f).toInt64) ∧ (∀ tq, Steps p.tables e below (s₁.setTop (mkF m 61 #[.val (.long q1), .second, .val (.long (1 : Int64)), .second, .val (.long v2), .second, .val (.long v4), .second, .val (.long v6), .second, .val (.long v8), .second, .val (.long v10), .second, .val (.long v12), .second, .val (.long v14), .second, .val (.long v16), .second] [])) tq → Steps p.tables e below (s₁.setTop (entryFrame m #[(.long q1), (.long (1 : Int64))] 20)) tq) := by
    refine ⟨_, rfl, fun tq kq => pre13 tq ?_⟩
    show Steps p.tables e below (s₁.setTop (mkF m 54 #[.val (.long q1), .second, .val (.long (1 : Int64)), .second, .val (.long v2), .second, .val (.long v4), .second, .val (.long v6), .second, .val (.long v8), .second, .val (.long v10), .second, .val (.long v12), .second, .val (.long v14), .second, .unset, .unset] [])) _
    refine XS.lload X0.here hx rfl (hb hby d7_54) rfl ?_
    show Steps p.tables e below (s₁.setTop (mkF m 56 #[.val (.long q1), .second, .val (.long (1 : Int64)), .second, .val (.long v2), .second, .val (.long v4), .second, .val (.long v6), .second, .val (.long v8), .second, .val (.long v10), .second, .val (.long v12), .second, .val (.long v14), .second, .unset, .unset] [(.long v12)])) _
    refine XS.bipush X0.here hx rfl (hb hby d7_56) ?_
    show Steps p.tables e below (s₁.setTop (mkF m 58 #[.val (.long q1), .second, .val (.long (1 : Int64)), .second, .val (.long v2), .second, .val (.long v4), .second, .val (.long v6), .second, .val (.long v8), .second, .val (.long v10), .second, .val (.long v12), .second, .val (.long v14), .second, .unset, .unset] [(.int (32 : Int32)), (.long v12)])) _
    refine XS.lshr X0.here hx rfl (hb hby d7_58) rfl ?_
    show Steps p.tables e below (s₁.setTop (mkF m 59 #[.val (.long q1), .second, .val (.long (1 : Int64)), .second, .val (.long v2), .second, .val (.long v4), .second, .val (.long v6), .second, .val (.long v8), .second, .val (.long v10), .second, .val (.long v12), .second, .val (.long v14), .second, .unset, .unset] [(.long (v12 >>> ((32 : Int32) &&& 0x3f).toInt64))])) _
    refine XS.lstore X0.here hx rfl (hb hby d7_59) rfl (l' := #[.val (.long q1), .second, .val (.long (1 : Int64)), .second, .val (.long v2), .second, .val (.long v4), .second, .val (.long v6), .second, .val (.long v8), .second, .val (.long v10), .second, .val (.long v12), .second, .val (.long v14), .second, .val (.long (v12 >>> ((32 : Int32) &&& 0x3f).toInt64)), .second]) rfl ?_
    exact kq
  obtain ⟨v18, hv_v18, pre17⟩ : ∃ v18 : Int64, v18 = (v14 + (v4 * v6)) ∧ (∀ tq, Steps p.tables e below (s₁.setTop (mkF m 71 #[.val (.long q1), .second, .val (.long (1 : Int64)), .second, .val (.long v2), .second, .val (.long v4), .second, .val (.long v6), .second, .val (.long v8), .second, .val (.long v10), .second, .val (.long v12), .second, .val (.long v18), .second, .val (.long v16), .second] [])) tq → Steps p.tables e below (s₁.setTop (entryFrame m #[(.long q1), (.long (1 : Int64))] 20)) tq) := by
    refine ⟨_, rfl, fun tq kq => pre15 tq ?_⟩
    show Steps p.tables e below (s₁.setTop (mkF m 61 #[.val (.long q1), .second, .val (.long (1 : Int64)), .second, .val (.long v2), .second, .val (.long v4), .second, .val (.long v6), .second, .val (.long v8), .second, .val (.long v10), .second, .val (.long v12), .second, .val (.long v14), .second, .val (.long v16), .second] [])) _
    refine XS.lload X0.here hx rfl (hb hby d7_61) rfl ?_
    show Steps p.tables e below (s₁.setTop (mkF m 63 #[.val (.long q1), .second, .val (.long (1 : Int64)), .second, .val (.long v2), .second, .val (.long v4), .second, .val (.long v6), .second, .val (.long v8), .second, .val (.long v10), .second, .val (.long v12), .second, .val (.long v14), .second, .val (.long v16), .second] [(.long v14)])) _
    refine XS.lload X0.here hx rfl (hb hby d7_63) rfl ?_
    show Steps p.tables e below (s₁.setTop (mkF m 65 #[.val (.long q1), .second, .val (.long (1 : Int64)), .second, .val (.long v2), .second, .val (.long v4), .second, .val (.long v6), .second, .val (.long v8), .second, .val (.long v10), .second, .val (.long v12), .second, .val (.long v14), .second, .val (.long v16), .second] [(.long v4), (.long v14)])) _
    refine XS.lload X0.here hx rfl (hb hby d7_65) rfl ?_
    show Steps p.tables e below (s₁.setTop (mkF m 67 #[.val (.long q1), .second, .val (.long (1 : Int64)), .second, .val (.long v2), .second, .val (.long v4), .second, .val (.long v6), .second, .val (.long v8), .second, .val (.long v10), .second, .val (.long v12), .second, .val (.long v14), .second, .val (.long v16), .second] [(.long v6), (.long v4), (.long v14)])) _
    refine XS.lmul X0.here hx rfl (hb hby d7_67) rfl ?_
    show Steps p.tables e below (s₁.setTop (mkF m 68 #[.val (.long q1), .second, .val (.long (1 : Int64)), .second, .val (.long v2), .second, .val (.long v4), .second, .val (.long v6), .second, .val (.long v8), .second, .val (.long v10), .second, .val (.long v12), .second, .val (.long v14), .second, .val (.long v16), .second] [(.long (v4 * v6)), (.long v14)])) _
    refine XS.ladd X0.here hx rfl (hb hby d7_68) rfl ?_
    show Steps p.tables e below (s₁.setTop (mkF m 69 #[.val (.long q1), .second, .val (.long (1 : Int64)), .second, .val (.long v2), .second, .val (.long v4), .second, .val (.long v6), .second, .val (.long v8), .second, .val (.long v10), .second, .val (.long v12), .second, .val (.long v14), .second, .val (.long v16), .second] [(.long (v14 + (v4 * v6)))])) _
    refine XS.lstore X0.here hx rfl (hb hby d7_69) rfl (l' := #[.val (.long q1), .second, .val (.long (1 : Int64)), .second, .val (.long v2), .second, .val (.long v4), .second, .val (.long v6), .second, .val (.long v8), .second, .val (.long v10), .second, .val (.long v12), .second, .val (.long (v14 + (v4 * v6))), .second, .val (.long v16), .second]) rfl ?_
    exact kq
  obtain ⟨fs, hr, hrun, hended, hW, hsame⟩ := X0.leave (v := some (.long (((v2 * v6) + v16) + (v18 >>> ((32 : Int32) &&& 0x3f).toInt64)))) (fun h => by rw [Bd.returns] at h; cases h)
  refine ⟨_, _, pre17 _ ?_, hrun, hended, _, _, rfl, ?_, ⟨_, rfl⟩, hW, hsame.mono (by decide) (by decide)⟩
  · skip
    show Steps p.tables e below (s₁.setTop (mkF m 71 #[.val (.long q1), .second, .val (.long (1 : Int64)), .second, .val (.long v2), .second, .val (.long v4), .second, .val (.long v6), .second, .val (.long v8), .second, .val (.long v10), .second, .val (.long v12), .second, .val (.long v18), .second, .val (.long v16), .second] [])) _
    refine XS.lload X0.here hx rfl (hb hby d7_71) rfl ?_
    show Steps p.tables e below (s₁.setTop (mkF m 73 #[.val (.long q1), .second, .val (.long (1 : Int64)), .second, .val (.long v2), .second, .val (.long v4), .second, .val (.long v6), .second, .val (.long v8), .second, .val (.long v10), .second, .val (.long v12), .second, .val (.long v18), .second, .val (.long v16), .second] [(.long v2)])) _
    refine XS.lload X0.here hx rfl (hb hby d7_73) rfl ?_
    show Steps p.tables e below (s₁.setTop (mkF m 75 #[.val (.long q1), .second, .val (.long (1 : Int64)), .second, .val (.long v2), .second, .val (.long v4), .second, .val (.long v6), .second, .val (.long v8), .second, .val (.long v10), .second, .val (.long v12), .second, .val (.long v18), .second, .val (.long v16), .second] [(.long v6), (.long v2)])) _
    refine XS.lmul X0.here hx rfl (hb hby d7_75) rfl ?_
    show Steps p.tables e below (s₁.setTop (mkF m 76 #[.val (.long q1), .second, .val (.long (1 : Int64)), .second, .val (.long v2), .second, .val (.long v4), .second, .val (.long v6), .second, .val (.long v8), .second, .val (.long v10), .second, .val (.long v12), .second, .val (.long v18), .second, .val (.long v16), .second] [(.long (v2 * v6))])) _
    refine XS.lload X0.here hx rfl (hb hby d7_76) rfl ?_
    show Steps p.tables e below (s₁.setTop (mkF m 78 #[.val (.long q1), .second, .val (.long (1 : Int64)), .second, .val (.long v2), .second, .val (.long v4), .second, .val (.long v6), .second, .val (.long v8), .second, .val (.long v10), .second, .val (.long v12), .second, .val (.long v18), .second, .val (.long v16), .second] [(.long v16), (.long (v2 * v6))])) _
    refine XS.ladd X0.here hx rfl (hb hby d7_78) rfl ?_
    show Steps p.tables e below (s₁.setTop (mkF m 79 #[.val (.long q1), .second, .val (.long (1 : Int64)), .second, .val (.long v2), .second, .val (.long v4), .second, .val (.long v6), .second, .val (.long v8), .second, .val (.long v10), .second, .val (.long v12), .second, .val (.long v18), .second, .val (.long v16), .second] [(.long ((v2 * v6) + v16))])) _
    refine XS.lload X0.here hx rfl (hb hby d7_79) rfl ?_
    show Steps p.tables e below (s₁.setTop (mkF m 81 #[.val (.long q1), .second, .val (.long (1 : Int64)), .second, .val (.long v2), .second, .val (.long v4), .second, .val (.long v6), .second, .val (.long v8), .second, .val (.long v10), .second, .val (.long v12), .second, .val (.long v18), .second, .val (.long v16), .second] [(.long v18), (.long ((v2 * v6) + v16))])) _
    refine XS.bipush X0.here hx rfl (hb hby d7_81) ?_
    show Steps p.tables e below (s₁.setTop (mkF m 83 #[.val (.long q1), .second, .val (.long (1 : Int64)), .second, .val (.long v2), .second, .val (.long v4), .second, .val (.long v6), .second, .val (.long v8), .second, .val (.long v10), .second, .val (.long v12), .second, .val (.long v18), .second, .val (.long v16), .second] [(.int (32 : Int32)), (.long v18), (.long ((v2 * v6) + v16))])) _
    refine XS.lshr X0.here hx rfl (hb hby d7_83) rfl ?_
    show Steps p.tables e below (s₁.setTop (mkF m 84 #[.val (.long q1), .second, .val (.long (1 : Int64)), .second, .val (.long v2), .second, .val (.long v4), .second, .val (.long v6), .second, .val (.long v8), .second, .val (.long v10), .second, .val (.long v12), .second, .val (.long v18), .second, .val (.long v16), .second] [(.long (v18 >>> ((32 : Int32) &&& 0x3f).toInt64)), (.long ((v2 * v6) + v16))])) _
    refine XS.ladd X0.here hx rfl (hb hby d7_84) rfl ?_
    show Steps p.tables e below (s₁.setTop (mkF m 85 #[.val (.long q1), .second, .val (.long (1 : Int64)), .second, .val (.long v2), .second, .val (.long v4), .second, .val (.long v6), .second, .val (.long v8), .second, .val (.long v10), .second, .val (.long v12), .second, .val (.long v18), .second, .val (.long v16), .second] [(.long (((v2 * v6) + v16) + (v18 >>> ((32 : Int32) &&& 0x3f).toInt64)))])) _
    exact X0.lreturnOut hx Bd.returns (hb hby d7_85) hr
  · show Q7 Z q1 h0 n0 _ s₁.heap _
    rw [e0]
    refine ⟨(((v2 * v6) + v16) + (v18 >>> ((32 : Int32) &&& 0x3f).toInt64)), rfl, N0, rfl, ?_⟩
    exact own_mh hx0.1 hx0.2 hv_v2 hv_v4 hv_v6 hv_v8 hv_v10 hv_v12 hv_v14 hv_v16 hv_v18
/-! body 5 -/
theorem d5_0 : decode jdk_29_method_65_code 0 = .ok (.iload_n 0, 1) := by decide +kernel
theorem d5_1 : decode jdk_29_method_65_code 1 = .ok (.iload_n 1, 1) := by decide +kernel
theorem d5_2 : decode jdk_29_method_65_code 2 = .ok (.if_icmp .lt 7, 3) := by decide +kernel
theorem d5_5 : decode jdk_29_method_65_code 5 = .ok (.iload_n 0, 1) := by decide +kernel
theorem d5_6 : decode jdk_29_method_65_code 6 = .ok (.goto 4, 3) := by decide +kernel
theorem d5_9 : decode jdk_29_method_65_code 9 = .ok (.iload_n 1, 1) := by decide +kernel
theorem d5_10 : decode jdk_29_method_65_code 10 = .ok (.ireturn, 1) := by decide +kernel
theorem ef_5 (m : MethodId) (p1 : Int32) (p2 : Int32) : entryFrame m #[(.int p1), (.int p2)] 2 = mkF m 0 #[.val (.int p1), .val (.int p2)] [] := by first | (simp [entryFrame, mkF, argsToLocals, Value.category]; done) | rfl
def Q5 (Z : State) (p1 : Int32) (p2 : Int32) (h0 : Heap) (n0 : Nat) (v : Option Value) (h : Heap) (L : List Loc) : Prop := ∃ r : Int32, v = some (.int r) ∧ Fr n0 L ∧ h = h0 ∧ ((p1 < p2 ∧ r = p2) ∨ (¬ (p1 < p2) ∧ r = p1))
set_option maxRecDepth 65536 in
set_option maxHeartbeats 40000000 in
theorem rm5 (l : Launch) (Z : State) (a0 : Array Value) (hw : ∀ d ∈ tables_1, d.before a0 Z = true) (ws : List Jvm.Cond) (p1 : Int32) (p2 : Int32) (h0 : Heap) (n0 : Nat) (Z0 : n0 ≤ h0.size)  :
    MetFree l (⟨"java/lang/Math", "max", "(II)I"⟩ : MethodName) (head1 (Jvm.Cond.code (⟨"java/lang/Math", "max", "(II)I"⟩ : MethodName) jdk_29_method_65_code 2 (some .int) :: ws) ({ frames := 0, cells := 0, slots := 0, locals := 0 } : Room)) (fun a U => a = #[(.int p1), (.int p2)] ∧ Z.Warmed39 U.vm ∧ U.heap = h0) (fun _ _ _ _ _ => True) (fun _ U o U' => ∃ v L, o = .returned v ∧ Q5 Z p1 p2 h0 n0 v U'.heap L ∧ FrameEnd U o U' L ({ frames := 0, cells := 0, slots := 0, locals := 0 } : Room).cells ({ frames := 0, cells := 0, slots := 0, locals := 0 } : Room).slots) := by
  refine MetFree.of_bodySF (Jvm.Free.JP.mathPlain rfl (by decide +kernel)) hisR ?_
  intro p e s m args below meth c s₁ Bd hml0 hP hK
  obtain ⟨rfl, hZ, hh⟩ := hP
  have hx := Bd.exec
  have hby := Bd.bytes
  have hml : c.maxLocals = 2 := hml0
  have hown : s.vm.findClass "java/lang/Math" = some m.cls := findClass_of_methodNamed Bd.named
  have hnm := (name_of_methodNamed Bd.named Bd.method).1
  have X0 : Stand p l e ({ frames := 0, cells := 0, slots := 0, locals := 0 } : Room) s m #[(.int p1), (.int p2)] below meth c s₁ [] 0 0 := Stand.of_body Bd
  have e0 : s₁.heap = h0 := by rw [← hh, Bd.state]; rfl
  have N0 := Fr.nil n0
  have pre0 : ∀ tq, Steps p.tables e below (s₁.setTop (mkF m 0 #[.val (.int p1), .val (.int p2)] [])) tq → Steps p.tables e below (s₁.setTop (entryFrame m #[(.int p1), (.int p2)] 2)) tq := fun tq kq => castTop (ef_5 m p1 p2) kq
  have pre1 : ∀ tq, Steps p.tables e below (s₁.setTop (mkF m 2 #[.val (.int p1), .val (.int p2)] [(.int p2), (.int p1)])) tq → Steps p.tables e below (s₁.setTop (entryFrame m #[(.int p1), (.int p2)] 2)) tq := by
    refine fun tq kq => pre0 tq ?_
    show Steps p.tables e below (s₁.setTop (mkF m 0 #[.val (.int p1), .val (.int p2)] [])) _
    refine XS.iloadN X0.here hx rfl (hb hby d5_0) rfl ?_
    show Steps p.tables e below (s₁.setTop (mkF m 1 #[.val (.int p1), .val (.int p2)] [(.int p1)])) _
    refine XS.iloadN X0.here hx rfl (hb hby d5_1) rfl ?_
    exact kq
  by_cases hc2 : p1 < p2
  · skip
    have pre2 : ∀ tq, Steps p.tables e below (s₁.setTop (mkF m 9 #[.val (.int p1), .val (.int p2)] [])) tq → Steps p.tables e below (s₁.setTop (entryFrame m #[(.int p1), (.int p2)] 2)) tq := by
      refine fun tq kq => pre1 tq ?_
      show Steps p.tables e below (s₁.setTop (mkF m 2 #[.val (.int p1), .val (.int p2)] [(.int p2), (.int p1)])) _
      refine XS.icmpYes X0.here hx rfl (pc0 := 2) (pc' := 9) rfl (hb hby d5_2) rfl (tlt hc2).1 (by decide) (by decide) ?_
      exact kq
    obtain ⟨fs, hr, hrun, hended, hW, hsame⟩ := X0.leave (v := some (.int p2)) (fun h => by rw [Bd.returns] at h; cases h)
    refine ⟨_, _, pre2 _ ?_, hrun, hended, _, _, rfl, ?_, ⟨_, rfl⟩, hW, hsame.mono (by decide) (by decide)⟩
    · skip
      show Steps p.tables e below (s₁.setTop (mkF m 9 #[.val (.int p1), .val (.int p2)] [])) _
      refine XS.iloadN X0.here hx rfl (hb hby d5_9) rfl ?_
      show Steps p.tables e below (s₁.setTop (mkF m 10 #[.val (.int p1), .val (.int p2)] [(.int p2)])) _
      exact retI X0 hx Bd.returns (hb hby d5_10) hr
    · show Q5 Z p1 p2 h0 n0 _ s₁.heap _
      rw [e0]
      exact ⟨p2, rfl, N0, rfl, Or.inl (⟨hc2, rfl⟩)⟩
  · skip
    have pre3 : ∀ tq, Steps p.tables e below (s₁.setTop (mkF m 5 #[.val (.int p1), .val (.int p2)] [])) tq → Steps p.tables e below (s₁.setTop (entryFrame m #[(.int p1), (.int p2)] 2)) tq := by
      refine fun tq kq => pre1 tq ?_
      show Steps p.tables e below (s₁.setTop (mkF m 2 #[.val (.int p1), .val (.int p2)] [(.int p2), (.int p1)])) _
      refine XS.icmpNo X0.here hx rfl (hb hby d5_2) rfl (flt hc2).1 ?_
      exact kq
    obtain ⟨fs, hr, hrun, hended, hW, hsame⟩ := X0.leave (v := some (.int p1)) (fun h => by rw [Bd.returns] at h; cases h)
    refine ⟨_, _, pre3 _ ?_, hrun, hended, _, _, rfl, ?_, ⟨_, rfl⟩, hW, hsame.mono (by decide) (by decide)⟩
    · skip
      show Steps p.tables e below (s₁.setTop (mkF m 5 #[.val (.int p1), .val (.int p2)] [])) _
      refine XS.iloadN X0.here hx rfl (hb hby d5_5) rfl ?_
      show Steps p.tables e below (s₁.setTop (mkF m 6 #[.val (.int p1), .val (.int p2)] [(.int p1)])) _
      refine XS.goto X0.here hx rfl (pc0 := 6) (pc' := 10) rfl (hb hby d5_6) (by decide) (by decide) ?_
      show Steps p.tables e below (s₁.setTop (mkF m 10 #[.val (.int p1), .val (.int p2)] [(.int p1)])) _
      exact retI X0 hx Bd.returns (hb hby d5_10) hr
    · show Q5 Z p1 p2 h0 n0 _ s₁.heap _
      rw [e0]
      exact ⟨p1, rfl, N0, rfl, Or.inr (⟨hc2, rfl⟩)⟩
/-! body 3 -/
theorem d3_0 : decode prog_103_method_8_code 0 = .ok (.dload_n 0, 1) := by decide +kernel
theorem d3_1 : decode prog_103_method_8_code 1 = .ok (.invokestatic 125, 3) := by decide +kernel
theorem d3_4 : decode prog_103_method_8_code 4 = .ok (.lstore_n 2, 1) := by decide +kernel
theorem d3_5 : decode prog_103_method_8_code 5 = .ok (.lload_n 2, 1) := by decide +kernel
theorem d3_6 : decode prog_103_method_8_code 6 = .ok (.bipush 52, 2) := by decide +kernel
theorem d3_8 : decode prog_103_method_8_code 8 = .ok (.lushr, 1) := by decide +kernel
theorem d3_9 : decode prog_103_method_8_code 9 = .ok (.lconst 0, 1) := by decide +kernel
theorem d3_10 : decode prog_103_method_8_code 10 = .ok (.lcmp, 1) := by decide +kernel
theorem d3_11 : decode prog_103_method_8_code 11 = .ok (.ifCond .ne 7, 3) := by decide +kernel
theorem d3_18 : decode prog_103_method_8_code 18 = .ok (.lload_n 2, 1) := by decide +kernel
theorem d3_19 : decode prog_103_method_8_code 19 = .ok (.ldc2_w 130, 3) := by decide +kernel
theorem d3_22 : decode prog_103_method_8_code 22 = .ok (.land, 1) := by decide +kernel
theorem d3_23 : decode prog_103_method_8_code 23 = .ok (.ldc2_w 17, 3) := by decide +kernel
theorem d3_26 : decode prog_103_method_8_code 26 = .ok (.lor, 1) := by decide +kernel
theorem d3_27 : decode prog_103_method_8_code 27 = .ok (.lreturn, 1) := by decide +kernel
theorem pn_3 : plainName "com/example/partwise/partwise/storage/DecimalRange" = true := by first | (simp [plainName, overriddenIn]; done) | decide +kernel
theorem ef_3 (m : MethodId) (d1 : UInt64) : entryFrame m #[(.double d1)] 4 = mkF m 0 #[.val (.double d1), .second, .unset, .unset] [] := by first | (simp [entryFrame, mkF, argsToLocals, Value.category]; done) | rfl
def Q3 (Z : State) (d1 : UInt64) (mm : Nat) (ee : Nat) (h0 : Heap) (n0 : Nat) (v : Option Value) (h : Heap) (L : List Loc) : Prop := ∃ r : Int64, v = some (.long r) ∧ Fr n0 L ∧ h = h0 ∧ (r.toInt = mm)
set_option maxRecDepth 65536 in
set_option maxHeartbeats 40000000 in
theorem rm3 (l : Launch) (Z : State) (a0 : Array Value) (hw : ∀ d ∈ tables_1, d.before a0 Z = true) (ws : List Jvm.Cond) (d1 : UInt64) (mm : Nat) (ee : Nat) (h0 : Heap) (n0 : Nat) (Z0 : n0 ≤ h0.size) (hbt : d1.toNat = (ee + 1075) * 4503599627370496 + (mm - 4503599627370496) ∧ 4503599627370496 ≤ mm ∧ mm < 9007199254740992 ∧ ee ≤ 7) :
    MetFree l (⟨"com/example/partwise/partwise/storage/DecimalRange", "significand", "(D)J"⟩ : MethodName) (head1 (Jvm.Cond.code (⟨"com/example/partwise/partwise/storage/DecimalRange", "significand", "(D)J"⟩ : MethodName) prog_103_method_8_code 4 (some .long) :: ws) ({ frames := 1, cells := 0, slots := 0, locals := 30 } : Room)) (fun a U => a = #[(.double d1)] ∧ Z.Warmed39 U.vm ∧ U.heap = h0) (fun _ _ _ _ _ => True) (fun _ U o U' => ∃ v L, o = .returned v ∧ Q3 Z d1 mm ee h0 n0 v U'.heap L ∧ FrameEnd U o U' L ({ frames := 1, cells := 0, slots := 0, locals := 30 } : Room).cells ({ frames := 1, cells := 0, slots := 0, locals := 30 } : Room).slots) := by
  refine MetFree.of_bodySF (plainFor_of_name pn_3) hisR ?_
  intro p e s m args below meth c s₁ Bd hml0 hP hK
  obtain ⟨rfl, hZ, hh⟩ := hP
  have hx := Bd.exec
  have hby := Bd.bytes
  have hml : c.maxLocals = 4 := hml0
  have hown : s.vm.findClass "com/example/partwise/partwise/storage/DecimalRange" = some m.cls := findClass_of_methodNamed Bd.named
  have hnm := (name_of_methodNamed Bd.named Bd.method).1
  have X0 : Stand p l e ({ frames := 1, cells := 0, slots := 0, locals := 30 } : Room) s m #[(.double d1)] below meth c s₁ [] 0 0 := Stand.of_body Bd
  have e0 : s₁.heap = h0 := by rw [← hh, Bd.state]; rfl
  have N0 := Fr.nil n0
  have pre0 : ∀ tq, Steps p.tables e below (s₁.setTop (mkF m 0 #[.val (.double d1), .second, .unset, .unset] [])) tq → Steps p.tables e below (s₁.setTop (entryFrame m #[(.double d1)] 4)) tq := fun tq kq => castTop (ef_3 m d1) kq
  have pre1 : ∀ tq, Steps p.tables e below (s₁.setTop (mkF m 1 #[.val (.double d1), .second, .unset, .unset] [(.double d1)])) tq → Steps p.tables e below (s₁.setTop (entryFrame m #[(.double d1)] 4)) tq := by
    refine fun tq kq => pre0 tq ?_
    show Steps p.tables e below (s₁.setTop (mkF m 0 #[.val (.double d1), .second, .unset, .unset] [])) _
    refine XS.dloadN X0.here hx rfl (hb hby d3_0) rfl ?_
    exact kq
  obtain ⟨vm2, X2, st2⟩ := X0.doubleToRawLongBits hx hown (mvT hZ (hw _ (List.mem_of_getElem? (i := 13) rfl))) (mvT hZ (hw _ (List.mem_of_getElem? (i := 16) rfl))) (mvT hZ (hw _ (List.mem_of_getElem? (i := 14) rfl))) (mvT hZ (hw _ (List.mem_of_getElem? (i := 15) rfl))) (g := (mkF m 1 #[.val (.double d1), .second, .unset, .unset] [(.double d1)])) rfl (by rw [hml]; rfl) (rest := []) (b := d1) rfl (hb hby d3_1) (by decide) (by show 2 * 0 + 0 + (nativeFrameWords "java/lang/Double" "doubleToRawLongBits" 2 + 11) ≤ 30; decide)
  obtain ⟨T2, eT2⟩ : ∃ Tz, Tz = s₁.setVm vm2 := ⟨_, rfl⟩
  rw [← eT2] at X2 st2
  have e2 : T2.heap = h0 := by rw [eT2]; exact e0
  have pre3 : ∀ tq, Steps p.tables e below (T2.setTop (mkF m 4 #[.val (.double d1), .second, .unset, .unset] [(.long (d1.toInt64))])) tq → Steps p.tables e below (s₁.setTop (entryFrame m #[(.double d1)] 4)) tq := fun tq kq => pre1 tq (st2 _ kq)
  obtain ⟨v5, hv_v5, pre4⟩ : ∃ v5 : Int64, v5 = (d1.toInt64) ∧ (∀ tq, Steps p.tables e below (T2.setTop (mkF m 5 #[.val (.double d1), .second, .val (.long v5), .second] [])) tq → Steps p.tables e below (s₁.setTop (entryFrame m #[(.double d1)] 4)) tq) := by
    refine ⟨_, rfl, fun tq kq => pre3 tq ?_⟩
    show Steps p.tables e below (T2.setTop (mkF m 4 #[.val (.double d1), .second, .unset, .unset] [(.long (d1.toInt64))])) _
    refine XS.lstoreN X2.here hx rfl (hb hby d3_4) rfl (l' := #[.val (.double d1), .second, .val (.long (d1.toInt64)), .second]) rfl ?_
    exact kq
  have hc11 : ¬ (((v5.toUInt64 >>> ((52 : Int32) &&& 0x3f).toInt64.toUInt64).toInt64) = (0 : Int64)) := by exact own_sig0 hbt hv_v5
  have pre6 : ∀ tq, Steps p.tables e below (T2.setTop (mkF m 18 #[.val (.double d1), .second, .val (.long v5), .second] [])) tq → Steps p.tables e below (s₁.setTop (entryFrame m #[(.double d1)] 4)) tq := by
    refine fun tq kq => pre4 tq ?_
    show Steps p.tables e below (T2.setTop (mkF m 5 #[.val (.double d1), .second, .val (.long v5), .second] [])) _
    refine XS.lloadN X2.here hx rfl (hb hby d3_5) rfl ?_
    show Steps p.tables e below (T2.setTop (mkF m 6 #[.val (.double d1), .second, .val (.long v5), .second] [(.long v5)])) _
    refine XS.bipush X2.here hx rfl (hb hby d3_6) ?_
    show Steps p.tables e below (T2.setTop (mkF m 8 #[.val (.double d1), .second, .val (.long v5), .second] [(.int (52 : Int32)), (.long v5)])) _
    refine XS.lushr X2.here hx rfl (hb hby d3_8) rfl ?_
    show Steps p.tables e below (T2.setTop (mkF m 9 #[.val (.double d1), .second, .val (.long v5), .second] [(.long ((v5.toUInt64 >>> ((52 : Int32) &&& 0x3f).toInt64.toUInt64).toInt64))])) _
    refine XS.lconst X2.here hx rfl (hb hby d3_9) ?_
    show Steps p.tables e below (T2.setTop (mkF m 10 #[.val (.double d1), .second, .val (.long v5), .second] [(.long (0 : Int64)), (.long ((v5.toUInt64 >>> ((52 : Int32) &&& 0x3f).toInt64.toUInt64).toInt64))])) _
    refine XS.lcmp X2.here hx rfl (hb hby d3_10) rfl ?_
    show Steps p.tables e below (T2.setTop (mkF m 11 #[.val (.double d1), .second, .val (.long v5), .second] [(.int (lcmpW ((v5.toUInt64 >>> ((52 : Int32) &&& 0x3f).toInt64.toUInt64).toInt64) (0 : Int64)))])) _
    refine XS.ifYes X2.here hx rfl (pc0 := 11) (pc' := 18) rfl (hb hby d3_11) rfl (jfeq hc11).2 (by decide) (by decide) ?_
    exact kq
  obtain ⟨fs, hr, hrun, hended, hW, hsame⟩ := X2.leave (v := some (.long ((v5 &&& (4503599627370495 : Int64)) ||| (4503599627370496 : Int64)))) (fun h => by rw [Bd.returns] at h; cases h)
  refine ⟨_, _, pre6 _ ?_, hrun, hended, _, _, rfl, ?_, ⟨_, rfl⟩, hW, hsame.mono (by decide) (by decide)⟩
  · skip
    show Steps p.tables e below (T2.setTop (mkF m 18 #[.val (.double d1), .second, .val (.long v5), .second] [])) _
    refine XS.lloadN X2.here hx rfl (hb hby d3_18) rfl ?_
    show Steps p.tables e below (T2.setTop (mkF m 19 #[.val (.double d1), .second, .val (.long v5), .second] [(.long v5)])) _
    refine X2.ldc2Long hx hown (mvT hZ (hw _ (List.mem_of_getElem? (i := 17) rfl))) (g := (mkF m 19 #[.val (.double d1), .second, .val (.long v5), .second] [(.long v5)])) rfl (hb hby d3_19) _ ?_
    show Steps p.tables e below (T2.setTop (mkF m 22 #[.val (.double d1), .second, .val (.long v5), .second] [(.long (4503599627370495 : Int64)), (.long v5)])) _
    refine XS.land X2.here hx rfl (hb hby d3_22) rfl ?_
    show Steps p.tables e below (T2.setTop (mkF m 23 #[.val (.double d1), .second, .val (.long v5), .second] [(.long (v5 &&& (4503599627370495 : Int64)))])) _
    refine X2.ldc2Long hx hown (mvT hZ (hw _ (List.mem_of_getElem? (i := 18) rfl))) (g := (mkF m 23 #[.val (.double d1), .second, .val (.long v5), .second] [(.long (v5 &&& (4503599627370495 : Int64)))])) rfl (hb hby d3_23) _ ?_
    show Steps p.tables e below (T2.setTop (mkF m 26 #[.val (.double d1), .second, .val (.long v5), .second] [(.long (4503599627370496 : Int64)), (.long (v5 &&& (4503599627370495 : Int64)))])) _
    refine XS.lor X2.here hx rfl (hb hby d3_26) rfl ?_
    show Steps p.tables e below (T2.setTop (mkF m 27 #[.val (.double d1), .second, .val (.long v5), .second] [(.long ((v5 &&& (4503599627370495 : Int64)) ||| (4503599627370496 : Int64)))])) _
    exact X2.lreturnOut hx Bd.returns (hb hby d3_27) hr
  · show Q3 Z d1 mm ee h0 n0 _ T2.heap _
    rw [e2]
    refine ⟨((v5 &&& (4503599627370495 : Int64)) ||| (4503599627370496 : Int64)), rfl, N0, rfl, ?_⟩
    exact own_sig hbt hv_v5
/-! body 4 -/
theorem d4_0 : decode prog_103_method_9_code 0 = .ok (.dload_n 0, 1) := by decide +kernel
theorem d4_1 : decode prog_103_method_9_code 1 = .ok (.invokestatic 125, 3) := by decide +kernel
theorem d4_4 : decode prog_103_method_9_code 4 = .ok (.bipush 52, 2) := by decide +kernel
theorem d4_6 : decode prog_103_method_9_code 6 = .ok (.lushr, 1) := by decide +kernel
theorem d4_7 : decode prog_103_method_9_code 7 = .ok (.l2i, 1) := by decide +kernel
theorem d4_8 : decode prog_103_method_9_code 8 = .ok (.istore_n 2, 1) := by decide +kernel
theorem d4_9 : decode prog_103_method_9_code 9 = .ok (.iload_n 2, 1) := by decide +kernel
theorem d4_10 : decode prog_103_method_9_code 10 = .ok (.iconst 1, 1) := by decide +kernel
theorem d4_11 : decode prog_103_method_9_code 11 = .ok (.invokestatic 132, 3) := by decide +kernel
theorem d4_14 : decode prog_103_method_9_code 14 = .ok (.sipush (-1074), 3) := by decide +kernel
theorem d4_17 : decode prog_103_method_9_code 17 = .ok (.iadd, 1) := by decide +kernel
theorem d4_18 : decode prog_103_method_9_code 18 = .ok (.iconst 1, 1) := by decide +kernel
theorem d4_19 : decode prog_103_method_9_code 19 = .ok (.isub, 1) := by decide +kernel
theorem d4_20 : decode prog_103_method_9_code 20 = .ok (.ireturn, 1) := by decide +kernel
theorem pn_4 : plainName "com/example/partwise/partwise/storage/DecimalRange" = true := by first | (simp [plainName, overriddenIn]; done) | decide +kernel
theorem pd4_0 : parseMethodDescriptor "(II)I" = some ⟨[.int, .int], some .int⟩ := by decide +kernel
theorem ef_4 (m : MethodId) (d1 : UInt64) : entryFrame m #[(.double d1)] 3 = mkF m 0 #[.val (.double d1), .second, .unset] [] := by first | (simp [entryFrame, mkF, argsToLocals, Value.category]; done) | rfl
def Q4 (Z : State) (d1 : UInt64) (mm : Nat) (ee : Nat) (h0 : Heap) (n0 : Nat) (v : Option Value) (h : Heap) (L : List Loc) : Prop := ∃ r : Int32, v = some (.int r) ∧ Fr n0 L ∧ h = h0 ∧ (r.toInt = ee)
set_option maxRecDepth 65536 in
set_option maxHeartbeats 40000000 in
theorem rm4 (l : Launch) (Z : State) (a0 : Array Value) (hw : ∀ d ∈ tables_1, d.before a0 Z = true) (ws : List Jvm.Cond) (d1 : UInt64) (mm : Nat) (ee : Nat) (h0 : Heap) (n0 : Nat) (Z0 : n0 ≤ h0.size) (hbt : d1.toNat = (ee + 1075) * 4503599627370496 + (mm - 4503599627370496) ∧ 4503599627370496 ≤ mm ∧ mm < 9007199254740992 ∧ ee ≤ 7) :
    MetFree l (⟨"com/example/partwise/partwise/storage/DecimalRange", "twos", "(D)I"⟩ : MethodName) (head1 (Jvm.Cond.code (⟨"com/example/partwise/partwise/storage/DecimalRange", "twos", "(D)I"⟩ : MethodName) prog_103_method_9_code 3 (some .int) :: ws) ({ frames := 1, cells := 0, slots := 0, locals := 30 } : Room)) (fun a U => a = #[(.double d1)] ∧ Z.Warmed39 U.vm ∧ U.heap = h0) (fun _ _ _ _ _ => True) (fun _ U o U' => ∃ v L, o = .returned v ∧ Q4 Z d1 mm ee h0 n0 v U'.heap L ∧ FrameEnd U o U' L ({ frames := 1, cells := 0, slots := 0, locals := 30 } : Room).cells ({ frames := 1, cells := 0, slots := 0, locals := 30 } : Room).slots) := by
  refine MetFree.of_bodySF (plainFor_of_name pn_4) hisR ?_
  intro p e s m args below meth c s₁ Bd hml0 hP hK
  obtain ⟨rfl, hZ, hh⟩ := hP
  have hx := Bd.exec
  have hby := Bd.bytes
  have hml : c.maxLocals = 3 := hml0
  have hown : s.vm.findClass "com/example/partwise/partwise/storage/DecimalRange" = some m.cls := findClass_of_methodNamed Bd.named
  have hnm := (name_of_methodNamed Bd.named Bd.method).1
  have X0 : Stand p l e ({ frames := 1, cells := 0, slots := 0, locals := 30 } : Room) s m #[(.double d1)] below meth c s₁ [] 0 0 := Stand.of_body Bd
  have e0 : s₁.heap = h0 := by rw [← hh, Bd.state]; rfl
  have N0 := Fr.nil n0
  have pre0 : ∀ tq, Steps p.tables e below (s₁.setTop (mkF m 0 #[.val (.double d1), .second, .unset] [])) tq → Steps p.tables e below (s₁.setTop (entryFrame m #[(.double d1)] 3)) tq := fun tq kq => castTop (ef_4 m d1) kq
  have pre1 : ∀ tq, Steps p.tables e below (s₁.setTop (mkF m 1 #[.val (.double d1), .second, .unset] [(.double d1)])) tq → Steps p.tables e below (s₁.setTop (entryFrame m #[(.double d1)] 3)) tq := by
    refine fun tq kq => pre0 tq ?_
    show Steps p.tables e below (s₁.setTop (mkF m 0 #[.val (.double d1), .second, .unset] [])) _
    refine XS.dloadN X0.here hx rfl (hb hby d4_0) rfl ?_
    exact kq
  obtain ⟨vm2, X2, st2⟩ := X0.doubleToRawLongBits hx hown (mvT hZ (hw _ (List.mem_of_getElem? (i := 13) rfl))) (mvT hZ (hw _ (List.mem_of_getElem? (i := 16) rfl))) (mvT hZ (hw _ (List.mem_of_getElem? (i := 14) rfl))) (mvT hZ (hw _ (List.mem_of_getElem? (i := 15) rfl))) (g := (mkF m 1 #[.val (.double d1), .second, .unset] [(.double d1)])) rfl (by rw [hml]; rfl) (rest := []) (b := d1) rfl (hb hby d4_1) (by decide) (by show 2 * 0 + 0 + (nativeFrameWords "java/lang/Double" "doubleToRawLongBits" 2 + 11) ≤ 30; decide)
  obtain ⟨T2, eT2⟩ : ∃ Tz, Tz = s₁.setVm vm2 := ⟨_, rfl⟩
  rw [← eT2] at X2 st2
  have e2 : T2.heap = h0 := by rw [eT2]; exact e0
  have pre3 : ∀ tq, Steps p.tables e below (T2.setTop (mkF m 4 #[.val (.double d1), .second, .unset] [(.long (d1.toInt64))])) tq → Steps p.tables e below (s₁.setTop (entryFrame m #[(.double d1)] 3)) tq := fun tq kq => pre1 tq (st2 _ kq)
  obtain ⟨v5, hv_v5, pre4⟩ : ∃ v5 : Int32, v5 = ((((d1.toInt64).toUInt64 >>> ((52 : Int32) &&& 0x3f).toInt64.toUInt64).toInt64).toInt32) ∧ (∀ tq, Steps p.tables e below (T2.setTop (mkF m 9 #[.val (.double d1), .second, .val (.int v5)] [])) tq → Steps p.tables e below (s₁.setTop (entryFrame m #[(.double d1)] 3)) tq) := by
    refine ⟨_, rfl, fun tq kq => pre3 tq ?_⟩
    show Steps p.tables e below (T2.setTop (mkF m 4 #[.val (.double d1), .second, .unset] [(.long (d1.toInt64))])) _
    refine XS.bipush X2.here hx rfl (hb hby d4_4) ?_
    show Steps p.tables e below (T2.setTop (mkF m 6 #[.val (.double d1), .second, .unset] [(.int (52 : Int32)), (.long (d1.toInt64))])) _
    refine XS.lushr X2.here hx rfl (hb hby d4_6) rfl ?_
    show Steps p.tables e below (T2.setTop (mkF m 7 #[.val (.double d1), .second, .unset] [(.long (((d1.toInt64).toUInt64 >>> ((52 : Int32) &&& 0x3f).toInt64.toUInt64).toInt64))])) _
    refine XS.l2i X2.here hx rfl (hb hby d4_7) rfl ?_
    show Steps p.tables e below (T2.setTop (mkF m 8 #[.val (.double d1), .second, .unset] [(.int ((((d1.toInt64).toUInt64 >>> ((52 : Int32) &&& 0x3f).toInt64.toUInt64).toInt64).toInt32))])) _
    refine XS.istoreN X2.here hx rfl (hb hby d4_8) rfl (l' := #[.val (.double d1), .second, .val (.int ((((d1.toInt64).toUInt64 >>> ((52 : Int32) &&& 0x3f).toInt64.toUInt64).toInt64).toInt32))]) rfl ?_
    exact kq
  have pre6 : ∀ tq, Steps p.tables e below (T2.setTop (mkF m 11 #[.val (.double d1), .second, .val (.int v5)] [(.int (1 : Int32)), (.int v5)])) tq → Steps p.tables e below (s₁.setTop (entryFrame m #[(.double d1)] 3)) tq := by
    refine fun tq kq => pre4 tq ?_
    show Steps p.tables e below (T2.setTop (mkF m 9 #[.val (.double d1), .second, .val (.int v5)] [])) _
    refine XS.iloadN X2.here hx rfl (hb hby d4_9) rfl ?_
    show Steps p.tables e below (T2.setTop (mkF m 10 #[.val (.double d1), .second, .val (.int v5)] [(.int v5)])) _
    refine XS.iconst X2.here hx rfl (hb hby d4_10) ?_
    exact kq
  have Z7 : n0 ≤ h0.size := Z0
  obtain ⟨_, _, ⟨T7, L7, k7, n7⟩, -, X7, ⟨Lc7, hQ7, l7, y7, z7⟩, st7⟩ := Jvm.LawKit.callS X2 hx (y := (⟨"java/lang/Math", "max", "(II)I"⟩ : MethodName)) hown (mvT hZ (hw _ (List.mem_of_getElem? (i := 22) rfl))) (mvT hZ (hw _ (List.mem_of_getElem? (i := 23) rfl))) (mvT hZ (hw _ (List.mem_of_getElem? (i := 24) rfl))) (mvT hZ (hw _ (List.mem_of_getElem? (i := 25) rfl))) (by decide) (backOf (W := 0) (rm5 l Z a0 hw [] v5 (1 : Int32)  h0 n0 Z7 ) hZ (hw _ (List.mem_of_getElem? (i := 25) rfl)) (hw _ (List.mem_of_getElem? (i := 24) rfl)) (by decide) (by decide)) (g := (mkF m 11 #[.val (.double d1), .second, .val (.int v5)] [(.int (1 : Int32)), (.int v5)])) rfl (by rw [hml]; rfl) (argsL := [(.int v5), (.int (1 : Int32))]) (rest := []) (lenOf pd4_0 rfl) rfl (by show 2 * 0 + _ ≤ _; exact Nat.le_of_eq rfl) (hb hby d4_11) (fun _ _ => ⟨rfl, e2, (by decide : 0 + 0 ≤ _), (by decide : 0 + 0 ≤ _)⟩)
  dsimp only [Pt.U, Pt.locs, Pt.cells, Pt.slots] at X7 l7 y7 z7 st7 hQ7
  subst l7 y7 z7
  obtain ⟨r8, rfl, Nq7, ehq7, hq7⟩ := hQ7
  have N7 := Fr.app N0 Nq7
  have pre9 : ∀ tq, Steps p.tables e below (T7.setTop (mkF m 14 #[.val (.double d1), .second, .val (.int v5)] [(.int r8)])) tq → Steps p.tables e below (s₁.setTop (entryFrame m #[(.double d1)] 3)) tq := fun tq kq => pre6 tq (st7 _ kq)
  obtain ⟨fs, hr, hrun, hended, hW, hsame⟩ := X7.leave (v := some (.int ((r8 + (-1074 : Int32)) - (1 : Int32)))) (fun h => by rw [Bd.returns] at h; cases h)
  refine ⟨_, _, pre9 _ ?_, hrun, hended, _, _, rfl, ?_, ⟨_, rfl⟩, hW, hsame.mono (by decide) (by decide)⟩
  · skip
    show Steps p.tables e below (T7.setTop (mkF m 14 #[.val (.double d1), .second, .val (.int v5)] [(.int r8)])) _
    refine XS.sipush X7.here hx rfl (hb hby d4_14) ?_
    show Steps p.tables e below (T7.setTop (mkF m 17 #[.val (.double d1), .second, .val (.int v5)] [(.int (-1074 : Int32)), (.int r8)])) _
    refine XS.iadd X7.here hx rfl (hb hby d4_17) rfl ?_
    show Steps p.tables e below (T7.setTop (mkF m 18 #[.val (.double d1), .second, .val (.int v5)] [(.int (r8 + (-1074 : Int32)))])) _
    refine XS.iconst X7.here hx rfl (hb hby d4_18) ?_
    show Steps p.tables e below (T7.setTop (mkF m 19 #[.val (.double d1), .second, .val (.int v5)] [(.int (1 : Int32)), (.int (r8 + (-1074 : Int32)))])) _
    refine XS.isub X7.here hx rfl (hb hby d4_19) rfl ?_
    show Steps p.tables e below (T7.setTop (mkF m 20 #[.val (.double d1), .second, .val (.int v5)] [(.int ((r8 + (-1074 : Int32)) - (1 : Int32)))])) _
    exact retI X7 hx Bd.returns (hb hby d4_20) hr
  · show Q4 Z d1 mm ee h0 n0 _ T7.heap _
    rw [ehq7]
    refine ⟨((r8 + (-1074 : Int32)) - (1 : Int32)), rfl, N7, rfl, ?_⟩
    exact own_two hbt hv_v5 (by first | exact hq7 | exact Or.symm hq7)
/-! body 6_0 -/
theorem d6_0_0 : decode prog_103_method_7_code 0 = .ok (.iload_n 2, 1) := by decide +kernel
theorem d6_0_1 : decode prog_103_method_7_code 1 = .ok (.iload_n 3, 1) := by decide +kernel
theorem d6_0_2 : decode prog_103_method_7_code 2 = .ok (.isub, 1) := by decide +kernel
theorem d6_0_3 : decode prog_103_method_7_code 3 = .ok (.istore 4, 2) := by decide +kernel
theorem d6_0_5 : decode prog_103_method_7_code 5 = .ok (.iload_n 3, 1) := by decide +kernel
theorem d6_0_6 : decode prog_103_method_7_code 6 = .ok (.ifCond .gt 96, 3) := by decide +kernel
theorem d6_0_9 : decode prog_103_method_7_code 9 = .ok (.iload_n 3, 1) := by decide +kernel
theorem d6_0_10 : decode prog_103_method_7_code 10 = .ok (.ineg, 1) := by decide +kernel
theorem d6_0_11 : decode prog_103_method_7_code 11 = .ok (.bipush 27, 2) := by decide +kernel
theorem d6_0_13 : decode prog_103_method_7_code 13 = .ok (.if_icmp .gt 89, 3) := by decide +kernel
theorem d6_0_16 : decode prog_103_method_7_code 16 = .ok (.iload 4, 2) := by decide +kernel
theorem d6_0_18 : decode prog_103_method_7_code 18 = .ok (.bipush (-64), 2) := by decide +kernel
theorem d6_0_20 : decode prog_103_method_7_code 20 = .ok (.if_icmp .le 82, 3) := by decide +kernel
theorem d6_0_23 : decode prog_103_method_7_code 23 = .ok (.getstatic 79, 3) := by decide +kernel
theorem d6_0_26 : decode prog_103_method_7_code 26 = .ok (.iload_n 3, 1) := by decide +kernel
theorem d6_0_27 : decode prog_103_method_7_code 27 = .ok (.ineg, 1) := by decide +kernel
theorem d6_0_28 : decode prog_103_method_7_code 28 = .ok (.laload, 1) := by decide +kernel
theorem d6_0_29 : decode prog_103_method_7_code 29 = .ok (.lstore 5, 2) := by decide +kernel
theorem d6_0_31 : decode prog_103_method_7_code 31 = .ok (.lload_n 0, 1) := by decide +kernel
theorem d6_0_32 : decode prog_103_method_7_code 32 = .ok (.lload 5, 2) := by decide +kernel
theorem d6_0_34 : decode prog_103_method_7_code 34 = .ok (.invokestatic 83, 3) := by decide +kernel
theorem d6_0_37 : decode prog_103_method_7_code 37 = .ok (.lstore 7, 2) := by decide +kernel
theorem d6_0_39 : decode prog_103_method_7_code 39 = .ok (.lload_n 0, 1) := by decide +kernel
theorem d6_0_40 : decode prog_103_method_7_code 40 = .ok (.lload 5, 2) := by decide +kernel
theorem d6_0_42 : decode prog_103_method_7_code 42 = .ok (.lmul, 1) := by decide +kernel
theorem d6_0_43 : decode prog_103_method_7_code 43 = .ok (.lstore 9, 2) := by decide +kernel
theorem d6_0_45 : decode prog_103_method_7_code 45 = .ok (.iload 4, 2) := by decide +kernel
theorem d6_0_47 : decode prog_103_method_7_code 47 = .ok (.ifCond .lt 11, 3) := by decide +kernel
theorem d6_0_58 : decode prog_103_method_7_code 58 = .ok (.lload 9, 2) := by decide +kernel
theorem d6_0_60 : decode prog_103_method_7_code 60 = .ok (.iload 4, 2) := by decide +kernel
theorem d6_0_62 : decode prog_103_method_7_code 62 = .ok (.ineg, 1) := by decide +kernel
theorem d6_0_63 : decode prog_103_method_7_code 63 = .ok (.lushr, 1) := by decide +kernel
theorem d6_0_64 : decode prog_103_method_7_code 64 = .ok (.lload 7, 2) := by decide +kernel
theorem d6_0_66 : decode prog_103_method_7_code 66 = .ok (.bipush 64, 2) := by decide +kernel
theorem d6_0_68 : decode prog_103_method_7_code 68 = .ok (.iload 4, 2) := by decide +kernel
theorem d6_0_70 : decode prog_103_method_7_code 70 = .ok (.iadd, 1) := by decide +kernel
theorem d6_0_71 : decode prog_103_method_7_code 71 = .ok (.lshl, 1) := by decide +kernel
theorem d6_0_72 : decode prog_103_method_7_code 72 = .ok (.lor, 1) := by decide +kernel
theorem d6_0_73 : decode prog_103_method_7_code 73 = .ok (.lstore 11, 2) := by decide +kernel
theorem d6_0_75 : decode prog_103_method_7_code 75 = .ok (.ldc2_w 25, 3) := by decide +kernel
theorem d6_0_78 : decode prog_103_method_7_code 78 = .ok (.lload 11, 2) := by decide +kernel
theorem d6_0_80 : decode prog_103_method_7_code 80 = .ok (.lmul, 1) := by decide +kernel
theorem d6_0_81 : decode prog_103_method_7_code 81 = .ok (.lload 9, 2) := by decide +kernel
theorem d6_0_83 : decode prog_103_method_7_code 83 = .ok (.bipush 64, 2) := by decide +kernel
theorem d6_0_85 : decode prog_103_method_7_code 85 = .ok (.iload 4, 2) := by decide +kernel
theorem d6_0_87 : decode prog_103_method_7_code 87 = .ok (.iadd, 1) := by decide +kernel
theorem d6_0_88 : decode prog_103_method_7_code 88 = .ok (.lshl, 1) := by decide +kernel
theorem d6_0_89 : decode prog_103_method_7_code 89 = .ok (.lconst 0, 1) := by decide +kernel
theorem d6_0_90 : decode prog_103_method_7_code 90 = .ok (.lcmp, 1) := by decide +kernel
theorem d6_0_91 : decode prog_103_method_7_code 91 = .ok (.ifCond .ne 7, 3) := by decide +kernel
theorem d6_0_94 : decode prog_103_method_7_code 94 = .ok (.iconst 0, 1) := by decide +kernel
theorem d6_0_95 : decode prog_103_method_7_code 95 = .ok (.goto 4, 3) := by decide +kernel
theorem d6_0_98 : decode prog_103_method_7_code 98 = .ok (.iconst 1, 1) := by decide +kernel
theorem d6_0_99 : decode prog_103_method_7_code 99 = .ok (.i2l, 1) := by decide +kernel
theorem d6_0_100 : decode prog_103_method_7_code 100 = .ok (.ladd, 1) := by decide +kernel
theorem d6_0_101 : decode prog_103_method_7_code 101 = .ok (.lreturn, 1) := by decide +kernel
theorem pn_6_0 : plainName "com/example/partwise/partwise/storage/DecimalRange" = true := by first | (simp [plainName, overriddenIn]; done) | decide +kernel
theorem pd6_0_0 : parseMethodDescriptor "(JJ)J" = some ⟨[.long, .long], some .long⟩ := by decide +kernel
theorem ef_6_0 (m : MethodId) (q1 : Int64) : entryFrame m #[(.long q1), (.int (-2 : Int32)), (.int (0 : Int32))] 13 = mkF m 0 #[.val (.long q1), .second, .val (.int (-2 : Int32)), .val (.int (0 : Int32)), .unset, .unset, .unset, .unset, .unset, .unset, .unset, .unset, .unset] [] := by first | (simp [entryFrame, mkF, argsToLocals, Value.category]; done) | rfl
def Q6_0 (Z : State) (q1 : Int64) (sF : Addr) (kF : ClassId) (h0 : Heap) (n0 : Nat) (v : Option Value) (h : Heap) (L : List Loc) : Prop := ∃ r : Int64, v = some (.long r) ∧ Fr n0 L ∧ h = h0 ∧ (r.toInt = 2 * (q1.toInt / 4) + (if q1.toInt % 4 = 0 then 0 else 1))
set_option maxRecDepth 65536 in
set_option maxHeartbeats 40000000 in
theorem rm6_0 (l : Launch) (Z : State) (a0 : Array Value) (hw : ∀ d ∈ tables_1, d.before a0 Z = true) (ws : List Jvm.Cond) (q1 : Int64) (sF : Addr) (kF : ClassId) (h0 : Heap) (n0 : Nat) (Z0 : n0 ≤ h0.size) (hq1 : 0 ≤ q1.toInt ∧ q1.toInt < 2 ^ 55) (S_FIVES : Sta Z h0 "com/example/partwise/partwise/storage/DecimalRange" "FIVES" "[J" (.ref sF)) (V_sF : Arv Z h0 sF kF .long (28 : Int32) [(.long (1 : Int64)), (.long (5 : Int64)), (.long (25 : Int64)), (.long (125 : Int64)), (.long (625 : Int64)), (.long (3125 : Int64)), (.long (15625 : Int64)), (.long (78125 : Int64)), (.long (390625 : Int64)), (.long (1953125 : Int64)), (.long (9765625 : Int64)), (.long (48828125 : Int64)), (.long (244140625 : Int64)), (.long (1220703125 : Int64)), (.long (6103515625 : Int64)), (.long (30517578125 : Int64)), (.long (152587890625 : Int64)), (.long (762939453125 : Int64)), (.long (3814697265625 : Int64)), (.long (19073486328125 : Int64)), (.long (95367431640625 : Int64)), (.long (476837158203125 : Int64)), (.long (2384185791015625 : Int64)), (.long (11920928955078125 : Int64)), (.long (59604644775390625 : Int64)), (.long (298023223876953125 : Int64)), (.long (1490116119384765625 : Int64)), (.long (7450580596923828125 : Int64))] (.long (0 : Int64))) :
    MetFree l (⟨"com/example/partwise/partwise/storage/DecimalRange", "twiceUnits", "(JII)J"⟩ : MethodName) (head1 (Jvm.Cond.code (⟨"com/example/partwise/partwise/storage/DecimalRange", "twiceUnits", "(JII)J"⟩ : MethodName) prog_103_method_7_code 13 (some .long) :: ws) ({ frames := 1, cells := 0, slots := 0, locals := 31 } : Room)) (fun a U => a = #[(.long q1), (.int (-2 : Int32)), (.int (0 : Int32))] ∧ Z.Warmed39 U.vm ∧ U.heap = h0) (fun _ _ _ _ _ => True) (fun _ U o U' => ∃ v L, o = .returned v ∧ Q6_0 Z q1 sF kF h0 n0 v U'.heap L ∧ FrameEnd U o U' L ({ frames := 1, cells := 0, slots := 0, locals := 31 } : Room).cells ({ frames := 1, cells := 0, slots := 0, locals := 31 } : Room).slots) := by
  refine MetFree.of_bodySF (plainFor_of_name pn_6_0) hisR ?_
  intro p e s m args below meth c s₁ Bd hml0 hP hK
  obtain ⟨rfl, hZ, hh⟩ := hP
  have hx := Bd.exec
  have hby := Bd.bytes
  have hml : c.maxLocals = 13 := hml0
  have hown : s.vm.findClass "com/example/partwise/partwise/storage/DecimalRange" = some m.cls := findClass_of_methodNamed Bd.named
  have hnm := (name_of_methodNamed Bd.named Bd.method).1
  have X0 : Stand p l e ({ frames := 1, cells := 0, slots := 0, locals := 31 } : Room) s m #[(.long q1), (.int (-2 : Int32)), (.int (0 : Int32))] below meth c s₁ [] 0 0 := Stand.of_body Bd
  have e0 : s₁.heap = h0 := by rw [← hh, Bd.state]; rfl
  have N0 := Fr.nil n0
  have pre0 : ∀ tq, Steps p.tables e below (s₁.setTop (mkF m 0 #[.val (.long q1), .second, .val (.int (-2 : Int32)), .val (.int (0 : Int32)), .unset, .unset, .unset, .unset, .unset, .unset, .unset, .unset, .unset] [])) tq → Steps p.tables e below (s₁.setTop (entryFrame m #[(.long q1), (.int (-2 : Int32)), (.int (0 : Int32))] 13)) tq := fun tq kq => castTop (ef_6_0 m q1) kq
  have pre1 : ∀ tq, Steps p.tables e below (s₁.setTop (mkF m 9 #[.val (.long q1), .second, .val (.int (-2 : Int32)), .val (.int (0 : Int32)), .val (.int (-2 : Int32)), .unset, .unset, .unset, .unset, .unset, .unset, .unset, .unset] [])) tq → Steps p.tables e below (s₁.setTop (entryFrame m #[(.long q1), (.int (-2 : Int32)), (.int (0 : Int32))] 13)) tq := by
    refine fun tq kq => pre0 tq ?_
    show Steps p.tables e below (s₁.setTop (mkF m 0 #[.val (.long q1), .second, .val (.int (-2 : Int32)), .val (.int (0 : Int32)), .unset, .unset, .unset, .unset, .unset, .unset, .unset, .unset, .unset] [])) _
    refine XS.iloadN X0.here hx rfl (hb hby d6_0_0) rfl ?_
    show Steps p.tables e below (s₁.setTop (mkF m 1 #[.val (.long q1), .second, .val (.int (-2 : Int32)), .val (.int (0 : Int32)), .unset, .unset, .unset, .unset, .unset, .unset, .unset, .unset, .unset] [(.int (-2 : Int32))])) _
    refine XS.iloadN X0.here hx rfl (hb hby d6_0_1) rfl ?_
    show Steps p.tables e below (s₁.setTop (mkF m 2 #[.val (.long q1), .second, .val (.int (-2 : Int32)), .val (.int (0 : Int32)), .unset, .unset, .unset, .unset, .unset, .unset, .unset, .unset, .unset] [(.int (0 : Int32)), (.int (-2 : Int32))])) _
    refine XS.isub X0.here hx rfl (hb hby d6_0_2) rfl ?_
    show Steps p.tables e below (s₁.setTop (mkF m 3 #[.val (.long q1), .second, .val (.int (-2 : Int32)), .val (.int (0 : Int32)), .unset, .unset, .unset, .unset, .unset, .unset, .unset, .unset, .unset] [(.int (-2 : Int32))])) _
    refine XS.istore X0.here hx rfl (hb hby d6_0_3) rfl (l' := #[.val (.long q1), .second, .val (.int (-2 : Int32)), .val (.int (0 : Int32)), .val (.int (-2 : Int32)), .unset, .unset, .unset, .unset, .unset, .unset, .unset, .unset]) rfl ?_
    show Steps p.tables e below (s₁.setTop (mkF m 5 #[.val (.long q1), .second, .val (.int (-2 : Int32)), .val (.int (0 : Int32)), .val (.int (-2 : Int32)), .unset, .unset, .unset, .unset, .unset, .unset, .unset, .unset] [])) _
    refine XS.iloadN X0.here hx rfl (hb hby d6_0_5) rfl ?_
    show Steps p.tables e below (s₁.setTop (mkF m 6 #[.val (.long q1), .second, .val (.int (-2 : Int32)), .val (.int (0 : Int32)), .val (.int (-2 : Int32)), .unset, .unset, .unset, .unset, .unset, .unset, .unset, .unset] [(.int (0 : Int32))])) _
    refine XS.ifNo X0.here hx rfl (hb hby d6_0_6) rfl ((if0 _ _).trans (flt (by decide : ¬ ((0 : Int32) < (0 : Int32)))).2.2.1) ?_
    exact kq
  have pre2 : ∀ tq, Steps p.tables e below (s₁.setTop (mkF m 16 #[.val (.long q1), .second, .val (.int (-2 : Int32)), .val (.int (0 : Int32)), .val (.int (-2 : Int32)), .unset, .unset, .unset, .unset, .unset, .unset, .unset, .unset] [])) tq → Steps p.tables e below (s₁.setTop (entryFrame m #[(.long q1), (.int (-2 : Int32)), (.int (0 : Int32))] 13)) tq := by
    refine fun tq kq => pre1 tq ?_
    show Steps p.tables e below (s₁.setTop (mkF m 9 #[.val (.long q1), .second, .val (.int (-2 : Int32)), .val (.int (0 : Int32)), .val (.int (-2 : Int32)), .unset, .unset, .unset, .unset, .unset, .unset, .unset, .unset] [])) _
    refine XS.iloadN X0.here hx rfl (hb hby d6_0_9) rfl ?_
    show Steps p.tables e below (s₁.setTop (mkF m 10 #[.val (.long q1), .second, .val (.int (-2 : Int32)), .val (.int (0 : Int32)), .val (.int (-2 : Int32)), .unset, .unset, .unset, .unset, .unset, .unset, .unset, .unset] [(.int (0 : Int32))])) _
    refine XS.ineg X0.here hx rfl (hb hby d6_0_10) rfl ?_
    show Steps p.tables e below (s₁.setTop (mkF m 11 #[.val (.long q1), .second, .val (.int (-2 : Int32)), .val (.int (0 : Int32)), .val (.int (-2 : Int32)), .unset, .unset, .unset, .unset, .unset, .unset, .unset, .unset] [(.int (0 : Int32))])) _
    refine XS.bipush X0.here hx rfl (hb hby d6_0_11) ?_
    show Steps p.tables e below (s₁.setTop (mkF m 13 #[.val (.long q1), .second, .val (.int (-2 : Int32)), .val (.int (0 : Int32)), .val (.int (-2 : Int32)), .unset, .unset, .unset, .unset, .unset, .unset, .unset, .unset] [(.int (27 : Int32)), (.int (0 : Int32))])) _
    refine XS.icmpNo X0.here hx rfl (hb hby d6_0_13) rfl (flt (by decide : ¬ ((27 : Int32) < (0 : Int32)))).2.2.1 ?_
    exact kq
  have pre3 : ∀ tq, Steps p.tables e below (s₁.setTop (mkF m 23 #[.val (.long q1), .second, .val (.int (-2 : Int32)), .val (.int (0 : Int32)), .val (.int (-2 : Int32)), .unset, .unset, .unset, .unset, .unset, .unset, .unset, .unset] [])) tq → Steps p.tables e below (s₁.setTop (entryFrame m #[(.long q1), (.int (-2 : Int32)), (.int (0 : Int32))] 13)) tq := by
    refine fun tq kq => pre2 tq ?_
    show Steps p.tables e below (s₁.setTop (mkF m 16 #[.val (.long q1), .second, .val (.int (-2 : Int32)), .val (.int (0 : Int32)), .val (.int (-2 : Int32)), .unset, .unset, .unset, .unset, .unset, .unset, .unset, .unset] [])) _
    refine XS.iload X0.here hx rfl (hb hby d6_0_16) rfl ?_
    show Steps p.tables e below (s₁.setTop (mkF m 18 #[.val (.long q1), .second, .val (.int (-2 : Int32)), .val (.int (0 : Int32)), .val (.int (-2 : Int32)), .unset, .unset, .unset, .unset, .unset, .unset, .unset, .unset] [(.int (-2 : Int32))])) _
    refine XS.bipush X0.here hx rfl (hb hby d6_0_18) ?_
    show Steps p.tables e below (s₁.setTop (mkF m 20 #[.val (.long q1), .second, .val (.int (-2 : Int32)), .val (.int (0 : Int32)), .val (.int (-2 : Int32)), .unset, .unset, .unset, .unset, .unset, .unset, .unset, .unset] [(.int (-64 : Int32)), (.int (-2 : Int32))])) _
    refine XS.icmpNo X0.here hx rfl (hb hby d6_0_20) rfl (tlt (by decide : (-64 : Int32) < (-2 : Int32))).2.2.2 ?_
    exact kq
  obtain ⟨T4, X4, e4, st4⟩ := getS2 X0 hx hZ hown (host := "") (Or.inl (hw _ (List.mem_of_getElem? (i := 30) rfl))) Via.refl e0 S_FIVES (g := (mkF m 23 #[.val (.long q1), .second, .val (.int (-2 : Int32)), .val (.int (0 : Int32)), .val (.int (-2 : Int32)), .unset, .unset, .unset, .unset, .unset, .unset, .unset, .unset] [])) rfl (hb hby d6_0_23)
  have pre5 : ∀ tq, Steps p.tables e below (T4.setTop (mkF m 26 #[.val (.long q1), .second, .val (.int (-2 : Int32)), .val (.int (0 : Int32)), .val (.int (-2 : Int32)), .unset, .unset, .unset, .unset, .unset, .unset, .unset, .unset] [(.ref sF)])) tq → Steps p.tables e below (s₁.setTop (entryFrame m #[(.long q1), (.int (-2 : Int32)), (.int (0 : Int32))] 13)) tq := fun tq kq => pre3 tq (st4 _ kq)
  have pre6 : ∀ tq, Steps p.tables e below (T4.setTop (mkF m 28 #[.val (.long q1), .second, .val (.int (-2 : Int32)), .val (.int (0 : Int32)), .val (.int (-2 : Int32)), .unset, .unset, .unset, .unset, .unset, .unset, .unset, .unset] [(.int (0 : Int32)), (.ref sF)])) tq → Steps p.tables e below (s₁.setTop (entryFrame m #[(.long q1), (.int (-2 : Int32)), (.int (0 : Int32))] 13)) tq := by
    refine fun tq kq => pre5 tq ?_
    show Steps p.tables e below (T4.setTop (mkF m 26 #[.val (.long q1), .second, .val (.int (-2 : Int32)), .val (.int (0 : Int32)), .val (.int (-2 : Int32)), .unset, .unset, .unset, .unset, .unset, .unset, .unset, .unset] [(.ref sF)])) _
    refine XS.iloadN X4.here hx rfl (hb hby d6_0_26) rfl ?_
    show Steps p.tables e below (T4.setTop (mkF m 27 #[.val (.long q1), .second, .val (.int (-2 : Int32)), .val (.int (0 : Int32)), .val (.int (-2 : Int32)), .unset, .unset, .unset, .unset, .unset, .unset, .unset, .unset] [(.int (0 : Int32)), (.ref sF)])) _
    refine XS.ineg X4.here hx rfl (hb hby d6_0_27) rfl ?_
    exact kq
  have Vc7 := V_sF
  obtain ⟨cl7, Ar7, Aq7, As7, An7, Ah7, Ag7⟩ := Vc7
  have hin7 : ¬ ((0 : Int32) < 0 ∨ cl7.slots.size ≤ ((0 : Int32)).toNatClampNeg) := inb_of As7 ⟨by decide, by decide⟩
  have pre8 : ∀ tq, Steps p.tables e below (T4.setTop (mkF m 29 #[.val (.long q1), .second, .val (.int (-2 : Int32)), .val (.int (0 : Int32)), .val (.int (-2 : Int32)), .unset, .unset, .unset, .unset, .unset, .unset, .unset, .unset] [(.long (1 : Int64))])) tq → Steps p.tables e below (s₁.setTop (entryFrame m #[(.long q1), (.int (-2 : Int32)), (.int (0 : Int32))] 13)) tq := fun tq kq => pre6 tq (X4.laload hx (j := (0 : Int32)) (v := (.long (1 : Int64))) (by rw [e4]; exact Ar7.1) (State.isArrayOf_alike hZ.alike Ar7.2.1) Ar7.2.2 hin7 (Has.at Ah7 hin7 rfl) (g := (mkF m 28 #[.val (.long q1), .second, .val (.int (-2 : Int32)), .val (.int (0 : Int32)), .val (.int (-2 : Int32)), .unset, .unset, .unset, .unset, .unset, .unset, .unset, .unset] [(.int (0 : Int32)), (.ref sF)])) rfl rfl (hb hby d6_0_28) _ kq)
  have pre9 : ∀ tq, Steps p.tables e below (T4.setTop (mkF m 34 #[.val (.long q1), .second, .val (.int (-2 : Int32)), .val (.int (0 : Int32)), .val (.int (-2 : Int32)), .val (.long (1 : Int64)), .second, .unset, .unset, .unset, .unset, .unset, .unset] [(.long (1 : Int64)), (.long q1)])) tq → Steps p.tables e below (s₁.setTop (entryFrame m #[(.long q1), (.int (-2 : Int32)), (.int (0 : Int32))] 13)) tq := by
    refine fun tq kq => pre8 tq ?_
    show Steps p.tables e below (T4.setTop (mkF m 29 #[.val (.long q1), .second, .val (.int (-2 : Int32)), .val (.int (0 : Int32)), .val (.int (-2 : Int32)), .unset, .unset, .unset, .unset, .unset, .unset, .unset, .unset] [(.long (1 : Int64))])) _
    refine XS.lstore X4.here hx rfl (hb hby d6_0_29) rfl (l' := #[.val (.long q1), .second, .val (.int (-2 : Int32)), .val (.int (0 : Int32)), .val (.int (-2 : Int32)), .val (.long (1 : Int64)), .second, .unset, .unset, .unset, .unset, .unset, .unset]) rfl ?_
    show Steps p.tables e below (T4.setTop (mkF m 31 #[.val (.long q1), .second, .val (.int (-2 : Int32)), .val (.int (0 : Int32)), .val (.int (-2 : Int32)), .val (.long (1 : Int64)), .second, .unset, .unset, .unset, .unset, .unset, .unset] [])) _
    refine XS.lloadN X4.here hx rfl (hb hby d6_0_31) rfl ?_
    show Steps p.tables e below (T4.setTop (mkF m 32 #[.val (.long q1), .second, .val (.int (-2 : Int32)), .val (.int (0 : Int32)), .val (.int (-2 : Int32)), .val (.long (1 : Int64)), .second, .unset, .unset, .unset, .unset, .unset, .unset] [(.long q1)])) _
    refine XS.lload X4.here hx rfl (hb hby d6_0_32) rfl ?_
    exact kq
  have Z10 : n0 ≤ h0.size := Z0
  obtain ⟨_, _, ⟨T10, L10, k10, n10⟩, -, X10, ⟨Lc10, hQ10, l10, y10, z10⟩, st10⟩ := Jvm.LawKit.callS X4 hx (y := (⟨"java/lang/Math", "multiplyHigh", "(JJ)J"⟩ : MethodName)) hown (mvT hZ (hw _ (List.mem_of_getElem? (i := 32) rfl))) (mvT hZ (hw _ (List.mem_of_getElem? (i := 33) rfl))) (mvT hZ (hw _ (List.mem_of_getElem? (i := 24) rfl))) (mvT hZ (hw _ (List.mem_of_getElem? (i := 34) rfl))) (by decide) (backOf (W := 0) (rm7 l Z a0 hw [] q1  h0 n0 Z10 (hq1)) hZ (hw _ (List.mem_of_getElem? (i := 34) rfl)) (hw _ (List.mem_of_getElem? (i := 24) rfl)) (by decide) (by decide)) (g := (mkF m 34 #[.val (.long q1), .second, .val (.int (-2 : Int32)), .val (.int (0 : Int32)), .val (.int (-2 : Int32)), .val (.long (1 : Int64)), .second, .unset, .unset, .unset, .unset, .unset, .unset] [(.long (1 : Int64)), (.long q1)])) rfl (by rw [hml]; rfl) (argsL := [(.long q1), (.long (1 : Int64))]) (rest := []) (lenOf pd6_0_0 rfl) rfl (by show 2 * 0 + _ ≤ _; exact Nat.le_of_eq rfl) (hb hby d6_0_34) (fun _ _ => ⟨rfl, e4, (by decide : 0 + 0 ≤ _), (by decide : 0 + 0 ≤ _)⟩)
  dsimp only [Pt.U, Pt.locs, Pt.cells, Pt.slots] at X10 l10 y10 z10 st10 hQ10
  subst l10 y10 z10
  obtain ⟨r11, rfl, Nq10, ehq10, hq10⟩ := hQ10
  have N10 := Fr.app N0 Nq10
  have pre12 : ∀ tq, Steps p.tables e below (T10.setTop (mkF m 37 #[.val (.long q1), .second, .val (.int (-2 : Int32)), .val (.int (0 : Int32)), .val (.int (-2 : Int32)), .val (.long (1 : Int64)), .second, .unset, .unset, .unset, .unset, .unset, .unset] [(.long r11)])) tq → Steps p.tables e below (s₁.setTop (entryFrame m #[(.long q1), (.int (-2 : Int32)), (.int (0 : Int32))] 13)) tq := fun tq kq => pre9 tq (st10 _ kq)
  subst hq10
  obtain ⟨v14, hv_v14, pre13⟩ : ∃ v14 : Int64, v14 = (q1 * (1 : Int64)) ∧ (∀ tq, Steps p.tables e below (T10.setTop (mkF m 45 #[.val (.long q1), .second, .val (.int (-2 : Int32)), .val (.int (0 : Int32)), .val (.int (-2 : Int32)), .val (.long (1 : Int64)), .second, .val (.long (0 : Int64)), .second, .val (.long v14), .second, .unset, .unset] [])) tq → Steps p.tables e below (s₁.setTop (entryFrame m #[(.long q1), (.int (-2 : Int32)), (.int (0 : Int32))] 13)) tq) := by
    refine ⟨_, rfl, fun tq kq => pre12 tq ?_⟩
    show Steps p.tables e below (T10.setTop (mkF m 37 #[.val (.long q1), .second, .val (.int (-2 : Int32)), .val (.int (0 : Int32)), .val (.int (-2 : Int32)), .val (.long (1 : Int64)), .second, .unset, .unset, .unset, .unset, .unset, .unset] [(.long (0 : Int64))])) _
    refine XS.lstore X10.here hx rfl (hb hby d6_0_37) rfl (l' := #[.val (.long q1), .second, .val (.int (-2 : Int32)), .val (.int (0 : Int32)), .val (.int (-2 : Int32)), .val (.long (1 : Int64)), .second, .val (.long (0 : Int64)), .second, .unset, .unset, .unset, .unset]) rfl ?_
    show Steps p.tables e below (T10.setTop (mkF m 39 #[.val (.long q1), .second, .val (.int (-2 : Int32)), .val (.int (0 : Int32)), .val (.int (-2 : Int32)), .val (.long (1 : Int64)), .second, .val (.long (0 : Int64)), .second, .unset, .unset, .unset, .unset] [])) _
    refine XS.lloadN X10.here hx rfl (hb hby d6_0_39) rfl ?_
    show Steps p.tables e below (T10.setTop (mkF m 40 #[.val (.long q1), .second, .val (.int (-2 : Int32)), .val (.int (0 : Int32)), .val (.int (-2 : Int32)), .val (.long (1 : Int64)), .second, .val (.long (0 : Int64)), .second, .unset, .unset, .unset, .unset] [(.long q1)])) _
    refine XS.lload X10.here hx rfl (hb hby d6_0_40) rfl ?_
    show Steps p.tables e below (T10.setTop (mkF m 42 #[.val (.long q1), .second, .val (.int (-2 : Int32)), .val (.int (0 : Int32)), .val (.int (-2 : Int32)), .val (.long (1 : Int64)), .second, .val (.long (0 : Int64)), .second, .unset, .unset, .unset, .unset] [(.long (1 : Int64)), (.long q1)])) _
    refine XS.lmul X10.here hx rfl (hb hby d6_0_42) rfl ?_
    show Steps p.tables e below (T10.setTop (mkF m 43 #[.val (.long q1), .second, .val (.int (-2 : Int32)), .val (.int (0 : Int32)), .val (.int (-2 : Int32)), .val (.long (1 : Int64)), .second, .val (.long (0 : Int64)), .second, .unset, .unset, .unset, .unset] [(.long (q1 * (1 : Int64)))])) _
    refine XS.lstore X10.here hx rfl (hb hby d6_0_43) rfl (l' := #[.val (.long q1), .second, .val (.int (-2 : Int32)), .val (.int (0 : Int32)), .val (.int (-2 : Int32)), .val (.long (1 : Int64)), .second, .val (.long (0 : Int64)), .second, .val (.long (q1 * (1 : Int64))), .second, .unset, .unset]) rfl ?_
    exact kq
  have pre15 : ∀ tq, Steps p.tables e below (T10.setTop (mkF m 58 #[.val (.long q1), .second, .val (.int (-2 : Int32)), .val (.int (0 : Int32)), .val (.int (-2 : Int32)), .val (.long (1 : Int64)), .second, .val (.long (0 : Int64)), .second, .val (.long v14), .second, .unset, .unset] [])) tq → Steps p.tables e below (s₁.setTop (entryFrame m #[(.long q1), (.int (-2 : Int32)), (.int (0 : Int32))] 13)) tq := by
    refine fun tq kq => pre13 tq ?_
    show Steps p.tables e below (T10.setTop (mkF m 45 #[.val (.long q1), .second, .val (.int (-2 : Int32)), .val (.int (0 : Int32)), .val (.int (-2 : Int32)), .val (.long (1 : Int64)), .second, .val (.long (0 : Int64)), .second, .val (.long v14), .second, .unset, .unset] [])) _
    refine XS.iload X10.here hx rfl (hb hby d6_0_45) rfl ?_
    show Steps p.tables e below (T10.setTop (mkF m 47 #[.val (.long q1), .second, .val (.int (-2 : Int32)), .val (.int (0 : Int32)), .val (.int (-2 : Int32)), .val (.long (1 : Int64)), .second, .val (.long (0 : Int64)), .second, .val (.long v14), .second, .unset, .unset] [(.int (-2 : Int32))])) _
    refine XS.ifYes X10.here hx rfl (pc0 := 47) (pc' := 58) rfl (hb hby d6_0_47) rfl ((if0 _ _).trans (tlt (by decide : (-2 : Int32) < (0 : Int32))).1) (by decide) (by decide) ?_
    exact kq
  obtain ⟨v17, hv_v17, pre16⟩ : ∃ v17 : Int64, v17 = (((v14.toUInt64 >>> ((2 : Int32) &&& 0x3f).toInt64.toUInt64).toInt64) ||| (0 : Int64)) ∧ (∀ tq, Steps p.tables e below (T10.setTop (mkF m 75 #[.val (.long q1), .second, .val (.int (-2 : Int32)), .val (.int (0 : Int32)), .val (.int (-2 : Int32)), .val (.long (1 : Int64)), .second, .val (.long (0 : Int64)), .second, .val (.long v14), .second, .val (.long v17), .second] [])) tq → Steps p.tables e below (s₁.setTop (entryFrame m #[(.long q1), (.int (-2 : Int32)), (.int (0 : Int32))] 13)) tq) := by
    refine ⟨_, rfl, fun tq kq => pre15 tq ?_⟩
    show Steps p.tables e below (T10.setTop (mkF m 58 #[.val (.long q1), .second, .val (.int (-2 : Int32)), .val (.int (0 : Int32)), .val (.int (-2 : Int32)), .val (.long (1 : Int64)), .second, .val (.long (0 : Int64)), .second, .val (.long v14), .second, .unset, .unset] [])) _
    refine XS.lload X10.here hx rfl (hb hby d6_0_58) rfl ?_
    show Steps p.tables e below (T10.setTop (mkF m 60 #[.val (.long q1), .second, .val (.int (-2 : Int32)), .val (.int (0 : Int32)), .val (.int (-2 : Int32)), .val (.long (1 : Int64)), .second, .val (.long (0 : Int64)), .second, .val (.long v14), .second, .unset, .unset] [(.long v14)])) _
    refine XS.iload X10.here hx rfl (hb hby d6_0_60) rfl ?_
    show Steps p.tables e below (T10.setTop (mkF m 62 #[.val (.long q1), .second, .val (.int (-2 : Int32)), .val (.int (0 : Int32)), .val (.int (-2 : Int32)), .val (.long (1 : Int64)), .second, .val (.long (0 : Int64)), .second, .val (.long v14), .second, .unset, .unset] [(.int (-2 : Int32)), (.long v14)])) _
    refine XS.ineg X10.here hx rfl (hb hby d6_0_62) rfl ?_
    show Steps p.tables e below (T10.setTop (mkF m 63 #[.val (.long q1), .second, .val (.int (-2 : Int32)), .val (.int (0 : Int32)), .val (.int (-2 : Int32)), .val (.long (1 : Int64)), .second, .val (.long (0 : Int64)), .second, .val (.long v14), .second, .unset, .unset] [(.int (2 : Int32)), (.long v14)])) _
    refine XS.lushr X10.here hx rfl (hb hby d6_0_63) rfl ?_
    show Steps p.tables e below (T10.setTop (mkF m 64 #[.val (.long q1), .second, .val (.int (-2 : Int32)), .val (.int (0 : Int32)), .val (.int (-2 : Int32)), .val (.long (1 : Int64)), .second, .val (.long (0 : Int64)), .second, .val (.long v14), .second, .unset, .unset] [(.long ((v14.toUInt64 >>> ((2 : Int32) &&& 0x3f).toInt64.toUInt64).toInt64))])) _
    refine XS.lload X10.here hx rfl (hb hby d6_0_64) rfl ?_
    show Steps p.tables e below (T10.setTop (mkF m 66 #[.val (.long q1), .second, .val (.int (-2 : Int32)), .val (.int (0 : Int32)), .val (.int (-2 : Int32)), .val (.long (1 : Int64)), .second, .val (.long (0 : Int64)), .second, .val (.long v14), .second, .unset, .unset] [(.long (0 : Int64)), (.long ((v14.toUInt64 >>> ((2 : Int32) &&& 0x3f).toInt64.toUInt64).toInt64))])) _
    refine XS.bipush X10.here hx rfl (hb hby d6_0_66) ?_
    show Steps p.tables e below (T10.setTop (mkF m 68 #[.val (.long q1), .second, .val (.int (-2 : Int32)), .val (.int (0 : Int32)), .val (.int (-2 : Int32)), .val (.long (1 : Int64)), .second, .val (.long (0 : Int64)), .second, .val (.long v14), .second, .unset, .unset] [(.int (64 : Int32)), (.long (0 : Int64)), (.long ((v14.toUInt64 >>> ((2 : Int32) &&& 0x3f).toInt64.toUInt64).toInt64))])) _
    refine XS.iload X10.here hx rfl (hb hby d6_0_68) rfl ?_
    show Steps p.tables e below (T10.setTop (mkF m 70 #[.val (.long q1), .second, .val (.int (-2 : Int32)), .val (.int (0 : Int32)), .val (.int (-2 : Int32)), .val (.long (1 : Int64)), .second, .val (.long (0 : Int64)), .second, .val (.long v14), .second, .unset, .unset] [(.int (-2 : Int32)), (.int (64 : Int32)), (.long (0 : Int64)), (.long ((v14.toUInt64 >>> ((2 : Int32) &&& 0x3f).toInt64.toUInt64).toInt64))])) _
    refine XS.iadd X10.here hx rfl (hb hby d6_0_70) rfl ?_
    show Steps p.tables e below (T10.setTop (mkF m 71 #[.val (.long q1), .second, .val (.int (-2 : Int32)), .val (.int (0 : Int32)), .val (.int (-2 : Int32)), .val (.long (1 : Int64)), .second, .val (.long (0 : Int64)), .second, .val (.long v14), .second, .unset, .unset] [(.int (62 : Int32)), (.long (0 : Int64)), (.long ((v14.toUInt64 >>> ((2 : Int32) &&& 0x3f).toInt64.toUInt64).toInt64))])) _
    refine XS.lshl X10.here hx rfl (hb hby d6_0_71) rfl ?_
    show Steps p.tables e below (T10.setTop (mkF m 72 #[.val (.long q1), .second, .val (.int (-2 : Int32)), .val (.int (0 : Int32)), .val (.int (-2 : Int32)), .val (.long (1 : Int64)), .second, .val (.long (0 : Int64)), .second, .val (.long v14), .second, .unset, .unset] [(.long (0 : Int64)), (.long ((v14.toUInt64 >>> ((2 : Int32) &&& 0x3f).toInt64.toUInt64).toInt64))])) _
    refine XS.lor X10.here hx rfl (hb hby d6_0_72) rfl ?_
    show Steps p.tables e below (T10.setTop (mkF m 73 #[.val (.long q1), .second, .val (.int (-2 : Int32)), .val (.int (0 : Int32)), .val (.int (-2 : Int32)), .val (.long (1 : Int64)), .second, .val (.long (0 : Int64)), .second, .val (.long v14), .second, .unset, .unset] [(.long (((v14.toUInt64 >>> ((2 : Int32) &&& 0x3f).toInt64.toUInt64).toInt64) ||| (0 : Int64)))])) _
    refine XS.lstore X10.here hx rfl (hb hby d6_0_73) rfl (l' := #[.val (.long q1), .second, .val (.int (-2 : Int32)), .val (.int (0 : Int32)), .val (.int (-2 : Int32)), .val (.long (1 : Int64)), .second, .val (.long (0 : Int64)), .second, .val (.long v14), .second, .val (.long (((v14.toUInt64 >>> ((2 : Int32) &&& 0x3f).toInt64.toUInt64).toInt64) ||| (0 : Int64))), .second]) rfl ?_
    exact kq
  obtain ⟨v18, v19, hv_v19, hj20, pre20⟩ : ∃ v18 : Int32, ∃ v19 : Int64, v19 = ((2 : Int64) * v17) ∧ (((v14 <<< ((62 : Int32) &&& 0x3f).toInt64) = (0 : Int64) ∧ v18 = (0 : Int32)) ∨ (¬ ((v14 <<< ((62 : Int32) &&& 0x3f).toInt64) = (0 : Int64)) ∧ v18 = (1 : Int32))) ∧ (∀ tq, Steps p.tables e below (T10.setTop (mkF m 99 #[.val (.long q1), .second, .val (.int (-2 : Int32)), .val (.int (0 : Int32)), .val (.int (-2 : Int32)), .val (.long (1 : Int64)), .second, .val (.long (0 : Int64)), .second, .val (.long v14), .second, .val (.long v17), .second] [(.int v18), (.long v19)])) tq → Steps p.tables e below (s₁.setTop (entryFrame m #[(.long q1), (.int (-2 : Int32)), (.int (0 : Int32))] 13)) tq) := by
    by_cases hb0_91 : (v14 <<< ((62 : Int32) &&& 0x3f).toInt64) = (0 : Int64)
    · skip
      refine ⟨(0 : Int32), ((2 : Int64) * v17), rfl, Or.inl (⟨hb0_91, rfl⟩), fun tq kq => pre16 tq ?_⟩
      show Steps p.tables e below (T10.setTop (mkF m 75 #[.val (.long q1), .second, .val (.int (-2 : Int32)), .val (.int (0 : Int32)), .val (.int (-2 : Int32)), .val (.long (1 : Int64)), .second, .val (.long (0 : Int64)), .second, .val (.long v14), .second, .val (.long v17), .second] [])) _
      refine X10.ldc2Long hx hown (mvT hZ (hw _ (List.mem_of_getElem? (i := 26) rfl))) (g := (mkF m 75 #[.val (.long q1), .second, .val (.int (-2 : Int32)), .val (.int (0 : Int32)), .val (.int (-2 : Int32)), .val (.long (1 : Int64)), .second, .val (.long (0 : Int64)), .second, .val (.long v14), .second, .val (.long v17), .second] [])) rfl (hb hby d6_0_75) _ ?_
      show Steps p.tables e below (T10.setTop (mkF m 78 #[.val (.long q1), .second, .val (.int (-2 : Int32)), .val (.int (0 : Int32)), .val (.int (-2 : Int32)), .val (.long (1 : Int64)), .second, .val (.long (0 : Int64)), .second, .val (.long v14), .second, .val (.long v17), .second] [(.long (2 : Int64))])) _
      refine XS.lload X10.here hx rfl (hb hby d6_0_78) rfl ?_
      show Steps p.tables e below (T10.setTop (mkF m 80 #[.val (.long q1), .second, .val (.int (-2 : Int32)), .val (.int (0 : Int32)), .val (.int (-2 : Int32)), .val (.long (1 : Int64)), .second, .val (.long (0 : Int64)), .second, .val (.long v14), .second, .val (.long v17), .second] [(.long v17), (.long (2 : Int64))])) _
      refine XS.lmul X10.here hx rfl (hb hby d6_0_80) rfl ?_
      show Steps p.tables e below (T10.setTop (mkF m 81 #[.val (.long q1), .second, .val (.int (-2 : Int32)), .val (.int (0 : Int32)), .val (.int (-2 : Int32)), .val (.long (1 : Int64)), .second, .val (.long (0 : Int64)), .second, .val (.long v14), .second, .val (.long v17), .second] [(.long ((2 : Int64) * v17))])) _
      refine XS.lload X10.here hx rfl (hb hby d6_0_81) rfl ?_
      show Steps p.tables e below (T10.setTop (mkF m 83 #[.val (.long q1), .second, .val (.int (-2 : Int32)), .val (.int (0 : Int32)), .val (.int (-2 : Int32)), .val (.long (1 : Int64)), .second, .val (.long (0 : Int64)), .second, .val (.long v14), .second, .val (.long v17), .second] [(.long v14), (.long ((2 : Int64) * v17))])) _
      refine XS.bipush X10.here hx rfl (hb hby d6_0_83) ?_
      show Steps p.tables e below (T10.setTop (mkF m 85 #[.val (.long q1), .second, .val (.int (-2 : Int32)), .val (.int (0 : Int32)), .val (.int (-2 : Int32)), .val (.long (1 : Int64)), .second, .val (.long (0 : Int64)), .second, .val (.long v14), .second, .val (.long v17), .second] [(.int (64 : Int32)), (.long v14), (.long ((2 : Int64) * v17))])) _
      refine XS.iload X10.here hx rfl (hb hby d6_0_85) rfl ?_
      show Steps p.tables e below (T10.setTop (mkF m 87 #[.val (.long q1), .second, .val (.int (-2 : Int32)), .val (.int (0 : Int32)), .val (.int (-2 : Int32)), .val (.long (1 : Int64)), .second, .val (.long (0 : Int64)), .second, .val (.long v14), .second, .val (.long v17), .second] [(.int (-2 : Int32)), (.int (64 : Int32)), (.long v14), (.long ((2 : Int64) * v17))])) _
      refine XS.iadd X10.here hx rfl (hb hby d6_0_87) rfl ?_
      show Steps p.tables e below (T10.setTop (mkF m 88 #[.val (.long q1), .second, .val (.int (-2 : Int32)), .val (.int (0 : Int32)), .val (.int (-2 : Int32)), .val (.long (1 : Int64)), .second, .val (.long (0 : Int64)), .second, .val (.long v14), .second, .val (.long v17), .second] [(.int (62 : Int32)), (.long v14), (.long ((2 : Int64) * v17))])) _
      refine XS.lshl X10.here hx rfl (hb hby d6_0_88) rfl ?_
      show Steps p.tables e below (T10.setTop (mkF m 89 #[.val (.long q1), .second, .val (.int (-2 : Int32)), .val (.int (0 : Int32)), .val (.int (-2 : Int32)), .val (.long (1 : Int64)), .second, .val (.long (0 : Int64)), .second, .val (.long v14), .second, .val (.long v17), .second] [(.long (v14 <<< ((62 : Int32) &&& 0x3f).toInt64)), (.long ((2 : Int64) * v17))])) _
      refine XS.lconst X10.here hx rfl (hb hby d6_0_89) ?_
      show Steps p.tables e below (T10.setTop (mkF m 90 #[.val (.long q1), .second, .val (.int (-2 : Int32)), .val (.int (0 : Int32)), .val (.int (-2 : Int32)), .val (.long (1 : Int64)), .second, .val (.long (0 : Int64)), .second, .val (.long v14), .second, .val (.long v17), .second] [(.long (0 : Int64)), (.long (v14 <<< ((62 : Int32) &&& 0x3f).toInt64)), (.long ((2 : Int64) * v17))])) _
      refine XS.lcmp X10.here hx rfl (hb hby d6_0_90) rfl ?_
      show Steps p.tables e below (T10.setTop (mkF m 91 #[.val (.long q1), .second, .val (.int (-2 : Int32)), .val (.int (0 : Int32)), .val (.int (-2 : Int32)), .val (.long (1 : Int64)), .second, .val (.long (0 : Int64)), .second, .val (.long v14), .second, .val (.long v17), .second] [(.int (lcmpW (v14 <<< ((62 : Int32) &&& 0x3f).toInt64) (0 : Int64))), (.long ((2 : Int64) * v17))])) _
      refine XS.ifNo X10.here hx rfl (hb hby d6_0_91) rfl (jteq hb0_91).2 ?_
      show Steps p.tables e below (T10.setTop (mkF m 94 #[.val (.long q1), .second, .val (.int (-2 : Int32)), .val (.int (0 : Int32)), .val (.int (-2 : Int32)), .val (.long (1 : Int64)), .second, .val (.long (0 : Int64)), .second, .val (.long v14), .second, .val (.long v17), .second] [(.long ((2 : Int64) * v17))])) _
      refine XS.iconst X10.here hx rfl (hb hby d6_0_94) ?_
      show Steps p.tables e below (T10.setTop (mkF m 95 #[.val (.long q1), .second, .val (.int (-2 : Int32)), .val (.int (0 : Int32)), .val (.int (-2 : Int32)), .val (.long (1 : Int64)), .second, .val (.long (0 : Int64)), .second, .val (.long v14), .second, .val (.long v17), .second] [(.int (0 : Int32)), (.long ((2 : Int64) * v17))])) _
      refine XS.goto X10.here hx rfl (pc0 := 95) (pc' := 99) rfl (hb hby d6_0_95) (by decide) (by decide) ?_
      exact kq
    · skip
      refine ⟨(1 : Int32), ((2 : Int64) * v17), rfl, Or.inr (⟨hb0_91, rfl⟩), fun tq kq => pre16 tq ?_⟩
      show Steps p.tables e below (T10.setTop (mkF m 75 #[.val (.long q1), .second, .val (.int (-2 : Int32)), .val (.int (0 : Int32)), .val (.int (-2 : Int32)), .val (.long (1 : Int64)), .second, .val (.long (0 : Int64)), .second, .val (.long v14), .second, .val (.long v17), .second] [])) _
      refine X10.ldc2Long hx hown (mvT hZ (hw _ (List.mem_of_getElem? (i := 26) rfl))) (g := (mkF m 75 #[.val (.long q1), .second, .val (.int (-2 : Int32)), .val (.int (0 : Int32)), .val (.int (-2 : Int32)), .val (.long (1 : Int64)), .second, .val (.long (0 : Int64)), .second, .val (.long v14), .second, .val (.long v17), .second] [])) rfl (hb hby d6_0_75) _ ?_
      show Steps p.tables e below (T10.setTop (mkF m 78 #[.val (.long q1), .second, .val (.int (-2 : Int32)), .val (.int (0 : Int32)), .val (.int (-2 : Int32)), .val (.long (1 : Int64)), .second, .val (.long (0 : Int64)), .second, .val (.long v14), .second, .val (.long v17), .second] [(.long (2 : Int64))])) _
      refine XS.lload X10.here hx rfl (hb hby d6_0_78) rfl ?_
      show Steps p.tables e below (T10.setTop (mkF m 80 #[.val (.long q1), .second, .val (.int (-2 : Int32)), .val (.int (0 : Int32)), .val (.int (-2 : Int32)), .val (.long (1 : Int64)), .second, .val (.long (0 : Int64)), .second, .val (.long v14), .second, .val (.long v17), .second] [(.long v17), (.long (2 : Int64))])) _
      refine XS.lmul X10.here hx rfl (hb hby d6_0_80) rfl ?_
      show Steps p.tables e below (T10.setTop (mkF m 81 #[.val (.long q1), .second, .val (.int (-2 : Int32)), .val (.int (0 : Int32)), .val (.int (-2 : Int32)), .val (.long (1 : Int64)), .second, .val (.long (0 : Int64)), .second, .val (.long v14), .second, .val (.long v17), .second] [(.long ((2 : Int64) * v17))])) _
      refine XS.lload X10.here hx rfl (hb hby d6_0_81) rfl ?_
      show Steps p.tables e below (T10.setTop (mkF m 83 #[.val (.long q1), .second, .val (.int (-2 : Int32)), .val (.int (0 : Int32)), .val (.int (-2 : Int32)), .val (.long (1 : Int64)), .second, .val (.long (0 : Int64)), .second, .val (.long v14), .second, .val (.long v17), .second] [(.long v14), (.long ((2 : Int64) * v17))])) _
      refine XS.bipush X10.here hx rfl (hb hby d6_0_83) ?_
      show Steps p.tables e below (T10.setTop (mkF m 85 #[.val (.long q1), .second, .val (.int (-2 : Int32)), .val (.int (0 : Int32)), .val (.int (-2 : Int32)), .val (.long (1 : Int64)), .second, .val (.long (0 : Int64)), .second, .val (.long v14), .second, .val (.long v17), .second] [(.int (64 : Int32)), (.long v14), (.long ((2 : Int64) * v17))])) _
      refine XS.iload X10.here hx rfl (hb hby d6_0_85) rfl ?_
      show Steps p.tables e below (T10.setTop (mkF m 87 #[.val (.long q1), .second, .val (.int (-2 : Int32)), .val (.int (0 : Int32)), .val (.int (-2 : Int32)), .val (.long (1 : Int64)), .second, .val (.long (0 : Int64)), .second, .val (.long v14), .second, .val (.long v17), .second] [(.int (-2 : Int32)), (.int (64 : Int32)), (.long v14), (.long ((2 : Int64) * v17))])) _
      refine XS.iadd X10.here hx rfl (hb hby d6_0_87) rfl ?_
      show Steps p.tables e below (T10.setTop (mkF m 88 #[.val (.long q1), .second, .val (.int (-2 : Int32)), .val (.int (0 : Int32)), .val (.int (-2 : Int32)), .val (.long (1 : Int64)), .second, .val (.long (0 : Int64)), .second, .val (.long v14), .second, .val (.long v17), .second] [(.int (62 : Int32)), (.long v14), (.long ((2 : Int64) * v17))])) _
      refine XS.lshl X10.here hx rfl (hb hby d6_0_88) rfl ?_
      show Steps p.tables e below (T10.setTop (mkF m 89 #[.val (.long q1), .second, .val (.int (-2 : Int32)), .val (.int (0 : Int32)), .val (.int (-2 : Int32)), .val (.long (1 : Int64)), .second, .val (.long (0 : Int64)), .second, .val (.long v14), .second, .val (.long v17), .second] [(.long (v14 <<< ((62 : Int32) &&& 0x3f).toInt64)), (.long ((2 : Int64) * v17))])) _
      refine XS.lconst X10.here hx rfl (hb hby d6_0_89) ?_
      show Steps p.tables e below (T10.setTop (mkF m 90 #[.val (.long q1), .second, .val (.int (-2 : Int32)), .val (.int (0 : Int32)), .val (.int (-2 : Int32)), .val (.long (1 : Int64)), .second, .val (.long (0 : Int64)), .second, .val (.long v14), .second, .val (.long v17), .second] [(.long (0 : Int64)), (.long (v14 <<< ((62 : Int32) &&& 0x3f).toInt64)), (.long ((2 : Int64) * v17))])) _
      refine XS.lcmp X10.here hx rfl (hb hby d6_0_90) rfl ?_
      show Steps p.tables e below (T10.setTop (mkF m 91 #[.val (.long q1), .second, .val (.int (-2 : Int32)), .val (.int (0 : Int32)), .val (.int (-2 : Int32)), .val (.long (1 : Int64)), .second, .val (.long (0 : Int64)), .second, .val (.long v14), .second, .val (.long v17), .second] [(.int (lcmpW (v14 <<< ((62 : Int32) &&& 0x3f).toInt64) (0 : Int64))), (.long ((2 : Int64) * v17))])) _
      refine XS.ifYes X10.here hx rfl (pc0 := 91) (pc' := 98) rfl (hb hby d6_0_91) rfl (jfeq hb0_91).2 (by decide) (by decide) ?_
      show Steps p.tables e below (T10.setTop (mkF m 98 #[.val (.long q1), .second, .val (.int (-2 : Int32)), .val (.int (0 : Int32)), .val (.int (-2 : Int32)), .val (.long (1 : Int64)), .second, .val (.long (0 : Int64)), .second, .val (.long v14), .second, .val (.long v17), .second] [(.long ((2 : Int64) * v17))])) _
      refine XS.iconst X10.here hx rfl (hb hby d6_0_98) ?_
      exact kq
  obtain ⟨fs, hr, hrun, hended, hW, hsame⟩ := X10.leave (v := some (.long (v19 + (v18.toInt64)))) (fun h => by rw [Bd.returns] at h; cases h)
  refine ⟨_, _, pre20 _ ?_, hrun, hended, _, _, rfl, ?_, ⟨_, rfl⟩, hW, hsame.mono (by decide) (by decide)⟩
  · skip
    show Steps p.tables e below (T10.setTop (mkF m 99 #[.val (.long q1), .second, .val (.int (-2 : Int32)), .val (.int (0 : Int32)), .val (.int (-2 : Int32)), .val (.long (1 : Int64)), .second, .val (.long (0 : Int64)), .second, .val (.long v14), .second, .val (.long v17), .second] [(.int v18), (.long v19)])) _
    refine XS.i2l X10.here hx rfl (hb hby d6_0_99) rfl ?_
    show Steps p.tables e below (T10.setTop (mkF m 100 #[.val (.long q1), .second, .val (.int (-2 : Int32)), .val (.int (0 : Int32)), .val (.int (-2 : Int32)), .val (.long (1 : Int64)), .second, .val (.long (0 : Int64)), .second, .val (.long v14), .second, .val (.long v17), .second] [(.long (v18.toInt64)), (.long v19)])) _
    refine XS.ladd X10.here hx rfl (hb hby d6_0_100) rfl ?_
    show Steps p.tables e below (T10.setTop (mkF m 101 #[.val (.long q1), .second, .val (.int (-2 : Int32)), .val (.int (0 : Int32)), .val (.int (-2 : Int32)), .val (.long (1 : Int64)), .second, .val (.long (0 : Int64)), .second, .val (.long v14), .second, .val (.long v17), .second] [(.long (v19 + (v18.toInt64)))])) _
    exact X10.lreturnOut hx Bd.returns (hb hby d6_0_101) hr
  · show Q6_0 Z q1 sF kF h0 n0 _ T10.heap _
    rw [ehq10]
    refine ⟨(v19 + (v18.toInt64)), rfl, N10, rfl, ?_⟩
    exact own_tu2 hq1.1 hq1.2 hv_v14 hv_v17 hv_v19 hj20
/-! body 6_1 -/
theorem d6_1_0 : decode prog_103_method_7_code 0 = .ok (.iload_n 2, 1) := by decide +kernel
theorem d6_1_1 : decode prog_103_method_7_code 1 = .ok (.iload_n 3, 1) := by decide +kernel
theorem d6_1_2 : decode prog_103_method_7_code 2 = .ok (.isub, 1) := by decide +kernel
theorem d6_1_3 : decode prog_103_method_7_code 3 = .ok (.istore 4, 2) := by decide +kernel
theorem d6_1_5 : decode prog_103_method_7_code 5 = .ok (.iload_n 3, 1) := by decide +kernel
theorem d6_1_6 : decode prog_103_method_7_code 6 = .ok (.ifCond .gt 96, 3) := by decide +kernel
theorem d6_1_9 : decode prog_103_method_7_code 9 = .ok (.iload_n 3, 1) := by decide +kernel
theorem d6_1_10 : decode prog_103_method_7_code 10 = .ok (.ineg, 1) := by decide +kernel
theorem d6_1_11 : decode prog_103_method_7_code 11 = .ok (.bipush 27, 2) := by decide +kernel
theorem d6_1_13 : decode prog_103_method_7_code 13 = .ok (.if_icmp .gt 89, 3) := by decide +kernel
theorem d6_1_16 : decode prog_103_method_7_code 16 = .ok (.iload 4, 2) := by decide +kernel
theorem d6_1_18 : decode prog_103_method_7_code 18 = .ok (.bipush (-64), 2) := by decide +kernel
theorem d6_1_20 : decode prog_103_method_7_code 20 = .ok (.if_icmp .le 82, 3) := by decide +kernel
theorem d6_1_23 : decode prog_103_method_7_code 23 = .ok (.getstatic 79, 3) := by decide +kernel
theorem d6_1_26 : decode prog_103_method_7_code 26 = .ok (.iload_n 3, 1) := by decide +kernel
theorem d6_1_27 : decode prog_103_method_7_code 27 = .ok (.ineg, 1) := by decide +kernel
theorem d6_1_28 : decode prog_103_method_7_code 28 = .ok (.laload, 1) := by decide +kernel
theorem d6_1_29 : decode prog_103_method_7_code 29 = .ok (.lstore 5, 2) := by decide +kernel
theorem d6_1_31 : decode prog_103_method_7_code 31 = .ok (.lload_n 0, 1) := by decide +kernel
theorem d6_1_32 : decode prog_103_method_7_code 32 = .ok (.lload 5, 2) := by decide +kernel
theorem d6_1_34 : decode prog_103_method_7_code 34 = .ok (.invokestatic 83, 3) := by decide +kernel
theorem d6_1_37 : decode prog_103_method_7_code 37 = .ok (.lstore 7, 2) := by decide +kernel
theorem d6_1_39 : decode prog_103_method_7_code 39 = .ok (.lload_n 0, 1) := by decide +kernel
theorem d6_1_40 : decode prog_103_method_7_code 40 = .ok (.lload 5, 2) := by decide +kernel
theorem d6_1_42 : decode prog_103_method_7_code 42 = .ok (.lmul, 1) := by decide +kernel
theorem d6_1_43 : decode prog_103_method_7_code 43 = .ok (.lstore 9, 2) := by decide +kernel
theorem d6_1_45 : decode prog_103_method_7_code 45 = .ok (.iload 4, 2) := by decide +kernel
theorem d6_1_47 : decode prog_103_method_7_code 47 = .ok (.ifCond .lt 11, 3) := by decide +kernel
theorem d6_1_58 : decode prog_103_method_7_code 58 = .ok (.lload 9, 2) := by decide +kernel
theorem d6_1_60 : decode prog_103_method_7_code 60 = .ok (.iload 4, 2) := by decide +kernel
theorem d6_1_62 : decode prog_103_method_7_code 62 = .ok (.ineg, 1) := by decide +kernel
theorem d6_1_63 : decode prog_103_method_7_code 63 = .ok (.lushr, 1) := by decide +kernel
theorem d6_1_64 : decode prog_103_method_7_code 64 = .ok (.lload 7, 2) := by decide +kernel
theorem d6_1_66 : decode prog_103_method_7_code 66 = .ok (.bipush 64, 2) := by decide +kernel
theorem d6_1_68 : decode prog_103_method_7_code 68 = .ok (.iload 4, 2) := by decide +kernel
theorem d6_1_70 : decode prog_103_method_7_code 70 = .ok (.iadd, 1) := by decide +kernel
theorem d6_1_71 : decode prog_103_method_7_code 71 = .ok (.lshl, 1) := by decide +kernel
theorem d6_1_72 : decode prog_103_method_7_code 72 = .ok (.lor, 1) := by decide +kernel
theorem d6_1_73 : decode prog_103_method_7_code 73 = .ok (.lstore 11, 2) := by decide +kernel
theorem d6_1_75 : decode prog_103_method_7_code 75 = .ok (.ldc2_w 25, 3) := by decide +kernel
theorem d6_1_78 : decode prog_103_method_7_code 78 = .ok (.lload 11, 2) := by decide +kernel
theorem d6_1_80 : decode prog_103_method_7_code 80 = .ok (.lmul, 1) := by decide +kernel
theorem d6_1_81 : decode prog_103_method_7_code 81 = .ok (.lload 9, 2) := by decide +kernel
theorem d6_1_83 : decode prog_103_method_7_code 83 = .ok (.bipush 64, 2) := by decide +kernel
theorem d6_1_85 : decode prog_103_method_7_code 85 = .ok (.iload 4, 2) := by decide +kernel
theorem d6_1_87 : decode prog_103_method_7_code 87 = .ok (.iadd, 1) := by decide +kernel
theorem d6_1_88 : decode prog_103_method_7_code 88 = .ok (.lshl, 1) := by decide +kernel
theorem d6_1_89 : decode prog_103_method_7_code 89 = .ok (.lconst 0, 1) := by decide +kernel
theorem d6_1_90 : decode prog_103_method_7_code 90 = .ok (.lcmp, 1) := by decide +kernel
theorem d6_1_91 : decode prog_103_method_7_code 91 = .ok (.ifCond .ne 7, 3) := by decide +kernel
theorem d6_1_94 : decode prog_103_method_7_code 94 = .ok (.iconst 0, 1) := by decide +kernel
theorem d6_1_95 : decode prog_103_method_7_code 95 = .ok (.goto 4, 3) := by decide +kernel
theorem d6_1_98 : decode prog_103_method_7_code 98 = .ok (.iconst 1, 1) := by decide +kernel
theorem d6_1_99 : decode prog_103_method_7_code 99 = .ok (.i2l, 1) := by decide +kernel
theorem d6_1_100 : decode prog_103_method_7_code 100 = .ok (.ladd, 1) := by decide +kernel
theorem d6_1_101 : decode prog_103_method_7_code 101 = .ok (.lreturn, 1) := by decide +kernel
theorem pn_6_1 : plainName "com/example/partwise/partwise/storage/DecimalRange" = true := by first | (simp [plainName, overriddenIn]; done) | decide +kernel
theorem pd6_1_0 : parseMethodDescriptor "(JJ)J" = some ⟨[.long, .long], some .long⟩ := by decide +kernel
theorem ef_6_1 (m : MethodId) (q1 : Int64) : entryFrame m #[(.long q1), (.int (-1 : Int32)), (.int (0 : Int32))] 13 = mkF m 0 #[.val (.long q1), .second, .val (.int (-1 : Int32)), .val (.int (0 : Int32)), .unset, .unset, .unset, .unset, .unset, .unset, .unset, .unset, .unset] [] := by first | (simp [entryFrame, mkF, argsToLocals, Value.category]; done) | rfl
def Q6_1 (Z : State) (q1 : Int64) (sF : Addr) (kF : ClassId) (h0 : Heap) (n0 : Nat) (v : Option Value) (h : Heap) (L : List Loc) : Prop := ∃ r : Int64, v = some (.long r) ∧ Fr n0 L ∧ h = h0 ∧ (r.toInt = q1.toInt)
set_option maxRecDepth 65536 in
set_option maxHeartbeats 40000000 in
theorem rm6_1 (l : Launch) (Z : State) (a0 : Array Value) (hw : ∀ d ∈ tables_1, d.before a0 Z = true) (ws : List Jvm.Cond) (q1 : Int64) (sF : Addr) (kF : ClassId) (h0 : Heap) (n0 : Nat) (Z0 : n0 ≤ h0.size) (hq1 : 0 ≤ q1.toInt ∧ q1.toInt < 2 ^ 55) (S_FIVES : Sta Z h0 "com/example/partwise/partwise/storage/DecimalRange" "FIVES" "[J" (.ref sF)) (V_sF : Arv Z h0 sF kF .long (28 : Int32) [(.long (1 : Int64)), (.long (5 : Int64)), (.long (25 : Int64)), (.long (125 : Int64)), (.long (625 : Int64)), (.long (3125 : Int64)), (.long (15625 : Int64)), (.long (78125 : Int64)), (.long (390625 : Int64)), (.long (1953125 : Int64)), (.long (9765625 : Int64)), (.long (48828125 : Int64)), (.long (244140625 : Int64)), (.long (1220703125 : Int64)), (.long (6103515625 : Int64)), (.long (30517578125 : Int64)), (.long (152587890625 : Int64)), (.long (762939453125 : Int64)), (.long (3814697265625 : Int64)), (.long (19073486328125 : Int64)), (.long (95367431640625 : Int64)), (.long (476837158203125 : Int64)), (.long (2384185791015625 : Int64)), (.long (11920928955078125 : Int64)), (.long (59604644775390625 : Int64)), (.long (298023223876953125 : Int64)), (.long (1490116119384765625 : Int64)), (.long (7450580596923828125 : Int64))] (.long (0 : Int64))) :
    MetFree l (⟨"com/example/partwise/partwise/storage/DecimalRange", "twiceUnits", "(JII)J"⟩ : MethodName) (head1 (Jvm.Cond.code (⟨"com/example/partwise/partwise/storage/DecimalRange", "twiceUnits", "(JII)J"⟩ : MethodName) prog_103_method_7_code 13 (some .long) :: ws) ({ frames := 1, cells := 0, slots := 0, locals := 31 } : Room)) (fun a U => a = #[(.long q1), (.int (-1 : Int32)), (.int (0 : Int32))] ∧ Z.Warmed39 U.vm ∧ U.heap = h0) (fun _ _ _ _ _ => True) (fun _ U o U' => ∃ v L, o = .returned v ∧ Q6_1 Z q1 sF kF h0 n0 v U'.heap L ∧ FrameEnd U o U' L ({ frames := 1, cells := 0, slots := 0, locals := 31 } : Room).cells ({ frames := 1, cells := 0, slots := 0, locals := 31 } : Room).slots) := by
  refine MetFree.of_bodySF (plainFor_of_name pn_6_1) hisR ?_
  intro p e s m args below meth c s₁ Bd hml0 hP hK
  obtain ⟨rfl, hZ, hh⟩ := hP
  have hx := Bd.exec
  have hby := Bd.bytes
  have hml : c.maxLocals = 13 := hml0
  have hown : s.vm.findClass "com/example/partwise/partwise/storage/DecimalRange" = some m.cls := findClass_of_methodNamed Bd.named
  have hnm := (name_of_methodNamed Bd.named Bd.method).1
  have X0 : Stand p l e ({ frames := 1, cells := 0, slots := 0, locals := 31 } : Room) s m #[(.long q1), (.int (-1 : Int32)), (.int (0 : Int32))] below meth c s₁ [] 0 0 := Stand.of_body Bd
  have e0 : s₁.heap = h0 := by rw [← hh, Bd.state]; rfl
  have N0 := Fr.nil n0
  have pre0 : ∀ tq, Steps p.tables e below (s₁.setTop (mkF m 0 #[.val (.long q1), .second, .val (.int (-1 : Int32)), .val (.int (0 : Int32)), .unset, .unset, .unset, .unset, .unset, .unset, .unset, .unset, .unset] [])) tq → Steps p.tables e below (s₁.setTop (entryFrame m #[(.long q1), (.int (-1 : Int32)), (.int (0 : Int32))] 13)) tq := fun tq kq => castTop (ef_6_1 m q1) kq
  have pre1 : ∀ tq, Steps p.tables e below (s₁.setTop (mkF m 9 #[.val (.long q1), .second, .val (.int (-1 : Int32)), .val (.int (0 : Int32)), .val (.int (-1 : Int32)), .unset, .unset, .unset, .unset, .unset, .unset, .unset, .unset] [])) tq → Steps p.tables e below (s₁.setTop (entryFrame m #[(.long q1), (.int (-1 : Int32)), (.int (0 : Int32))] 13)) tq := by
    refine fun tq kq => pre0 tq ?_
    show Steps p.tables e below (s₁.setTop (mkF m 0 #[.val (.long q1), .second, .val (.int (-1 : Int32)), .val (.int (0 : Int32)), .unset, .unset, .unset, .unset, .unset, .unset, .unset, .unset, .unset] [])) _
    refine XS.iloadN X0.here hx rfl (hb hby d6_1_0) rfl ?_
    show Steps p.tables e below (s₁.setTop (mkF m 1 #[.val (.long q1), .second, .val (.int (-1 : Int32)), .val (.int (0 : Int32)), .unset, .unset, .unset, .unset, .unset, .unset, .unset, .unset, .unset] [(.int (-1 : Int32))])) _
    refine XS.iloadN X0.here hx rfl (hb hby d6_1_1) rfl ?_
    show Steps p.tables e below (s₁.setTop (mkF m 2 #[.val (.long q1), .second, .val (.int (-1 : Int32)), .val (.int (0 : Int32)), .unset, .unset, .unset, .unset, .unset, .unset, .unset, .unset, .unset] [(.int (0 : Int32)), (.int (-1 : Int32))])) _
    refine XS.isub X0.here hx rfl (hb hby d6_1_2) rfl ?_
    show Steps p.tables e below (s₁.setTop (mkF m 3 #[.val (.long q1), .second, .val (.int (-1 : Int32)), .val (.int (0 : Int32)), .unset, .unset, .unset, .unset, .unset, .unset, .unset, .unset, .unset] [(.int (-1 : Int32))])) _
    refine XS.istore X0.here hx rfl (hb hby d6_1_3) rfl (l' := #[.val (.long q1), .second, .val (.int (-1 : Int32)), .val (.int (0 : Int32)), .val (.int (-1 : Int32)), .unset, .unset, .unset, .unset, .unset, .unset, .unset, .unset]) rfl ?_
    show Steps p.tables e below (s₁.setTop (mkF m 5 #[.val (.long q1), .second, .val (.int (-1 : Int32)), .val (.int (0 : Int32)), .val (.int (-1 : Int32)), .unset, .unset, .unset, .unset, .unset, .unset, .unset, .unset] [])) _
    refine XS.iloadN X0.here hx rfl (hb hby d6_1_5) rfl ?_
    show Steps p.tables e below (s₁.setTop (mkF m 6 #[.val (.long q1), .second, .val (.int (-1 : Int32)), .val (.int (0 : Int32)), .val (.int (-1 : Int32)), .unset, .unset, .unset, .unset, .unset, .unset, .unset, .unset] [(.int (0 : Int32))])) _
    refine XS.ifNo X0.here hx rfl (hb hby d6_1_6) rfl ((if0 _ _).trans (flt (by decide : ¬ ((0 : Int32) < (0 : Int32)))).2.2.1) ?_
    exact kq
  have pre2 : ∀ tq, Steps p.tables e below (s₁.setTop (mkF m 16 #[.val (.long q1), .second, .val (.int (-1 : Int32)), .val (.int (0 : Int32)), .val (.int (-1 : Int32)), .unset, .unset, .unset, .unset, .unset, .unset, .unset, .unset] [])) tq → Steps p.tables e below (s₁.setTop (entryFrame m #[(.long q1), (.int (-1 : Int32)), (.int (0 : Int32))] 13)) tq := by
    refine fun tq kq => pre1 tq ?_
    show Steps p.tables e below (s₁.setTop (mkF m 9 #[.val (.long q1), .second, .val (.int (-1 : Int32)), .val (.int (0 : Int32)), .val (.int (-1 : Int32)), .unset, .unset, .unset, .unset, .unset, .unset, .unset, .unset] [])) _
    refine XS.iloadN X0.here hx rfl (hb hby d6_1_9) rfl ?_
    show Steps p.tables e below (s₁.setTop (mkF m 10 #[.val (.long q1), .second, .val (.int (-1 : Int32)), .val (.int (0 : Int32)), .val (.int (-1 : Int32)), .unset, .unset, .unset, .unset, .unset, .unset, .unset, .unset] [(.int (0 : Int32))])) _
    refine XS.ineg X0.here hx rfl (hb hby d6_1_10) rfl ?_
    show Steps p.tables e below (s₁.setTop (mkF m 11 #[.val (.long q1), .second, .val (.int (-1 : Int32)), .val (.int (0 : Int32)), .val (.int (-1 : Int32)), .unset, .unset, .unset, .unset, .unset, .unset, .unset, .unset] [(.int (0 : Int32))])) _
    refine XS.bipush X0.here hx rfl (hb hby d6_1_11) ?_
    show Steps p.tables e below (s₁.setTop (mkF m 13 #[.val (.long q1), .second, .val (.int (-1 : Int32)), .val (.int (0 : Int32)), .val (.int (-1 : Int32)), .unset, .unset, .unset, .unset, .unset, .unset, .unset, .unset] [(.int (27 : Int32)), (.int (0 : Int32))])) _
    refine XS.icmpNo X0.here hx rfl (hb hby d6_1_13) rfl (flt (by decide : ¬ ((27 : Int32) < (0 : Int32)))).2.2.1 ?_
    exact kq
  have pre3 : ∀ tq, Steps p.tables e below (s₁.setTop (mkF m 23 #[.val (.long q1), .second, .val (.int (-1 : Int32)), .val (.int (0 : Int32)), .val (.int (-1 : Int32)), .unset, .unset, .unset, .unset, .unset, .unset, .unset, .unset] [])) tq → Steps p.tables e below (s₁.setTop (entryFrame m #[(.long q1), (.int (-1 : Int32)), (.int (0 : Int32))] 13)) tq := by
    refine fun tq kq => pre2 tq ?_
    show Steps p.tables e below (s₁.setTop (mkF m 16 #[.val (.long q1), .second, .val (.int (-1 : Int32)), .val (.int (0 : Int32)), .val (.int (-1 : Int32)), .unset, .unset, .unset, .unset, .unset, .unset, .unset, .unset] [])) _
    refine XS.iload X0.here hx rfl (hb hby d6_1_16) rfl ?_
    show Steps p.tables e below (s₁.setTop (mkF m 18 #[.val (.long q1), .second, .val (.int (-1 : Int32)), .val (.int (0 : Int32)), .val (.int (-1 : Int32)), .unset, .unset, .unset, .unset, .unset, .unset, .unset, .unset] [(.int (-1 : Int32))])) _
    refine XS.bipush X0.here hx rfl (hb hby d6_1_18) ?_
    show Steps p.tables e below (s₁.setTop (mkF m 20 #[.val (.long q1), .second, .val (.int (-1 : Int32)), .val (.int (0 : Int32)), .val (.int (-1 : Int32)), .unset, .unset, .unset, .unset, .unset, .unset, .unset, .unset] [(.int (-64 : Int32)), (.int (-1 : Int32))])) _
    refine XS.icmpNo X0.here hx rfl (hb hby d6_1_20) rfl (tlt (by decide : (-64 : Int32) < (-1 : Int32))).2.2.2 ?_
    exact kq
  obtain ⟨T4, X4, e4, st4⟩ := getS2 X0 hx hZ hown (host := "") (Or.inl (hw _ (List.mem_of_getElem? (i := 30) rfl))) Via.refl e0 S_FIVES (g := (mkF m 23 #[.val (.long q1), .second, .val (.int (-1 : Int32)), .val (.int (0 : Int32)), .val (.int (-1 : Int32)), .unset, .unset, .unset, .unset, .unset, .unset, .unset, .unset] [])) rfl (hb hby d6_1_23)
  have pre5 : ∀ tq, Steps p.tables e below (T4.setTop (mkF m 26 #[.val (.long q1), .second, .val (.int (-1 : Int32)), .val (.int (0 : Int32)), .val (.int (-1 : Int32)), .unset, .unset, .unset, .unset, .unset, .unset, .unset, .unset] [(.ref sF)])) tq → Steps p.tables e below (s₁.setTop (entryFrame m #[(.long q1), (.int (-1 : Int32)), (.int (0 : Int32))] 13)) tq := fun tq kq => pre3 tq (st4 _ kq)
  have pre6 : ∀ tq, Steps p.tables e below (T4.setTop (mkF m 28 #[.val (.long q1), .second, .val (.int (-1 : Int32)), .val (.int (0 : Int32)), .val (.int (-1 : Int32)), .unset, .unset, .unset, .unset, .unset, .unset, .unset, .unset] [(.int (0 : Int32)), (.ref sF)])) tq → Steps p.tables e below (s₁.setTop (entryFrame m #[(.long q1), (.int (-1 : Int32)), (.int (0 : Int32))] 13)) tq := by
    refine fun tq kq => pre5 tq ?_
    show Steps p.tables e below (T4.setTop (mkF m 26 #[.val (.long q1), .second, .val (.int (-1 : Int32)), .val (.int (0 : Int32)), .val (.int (-1 : Int32)), .unset, .unset, .unset, .unset, .unset, .unset, .unset, .unset] [(.ref sF)])) _
    refine XS.iloadN X4.here hx rfl (hb hby d6_1_26) rfl ?_
    show Steps p.tables e below (T4.setTop (mkF m 27 #[.val (.long q1), .second, .val (.int (-1 : Int32)), .val (.int (0 : Int32)), .val (.int (-1 : Int32)), .unset, .unset, .unset, .unset, .unset, .unset, .unset, .unset] [(.int (0 : Int32)), (.ref sF)])) _
    refine XS.ineg X4.here hx rfl (hb hby d6_1_27) rfl ?_
    exact kq
  have Vc7 := V_sF
  obtain ⟨cl7, Ar7, Aq7, As7, An7, Ah7, Ag7⟩ := Vc7
  have hin7 : ¬ ((0 : Int32) < 0 ∨ cl7.slots.size ≤ ((0 : Int32)).toNatClampNeg) := inb_of As7 ⟨by decide, by decide⟩
  have pre8 : ∀ tq, Steps p.tables e below (T4.setTop (mkF m 29 #[.val (.long q1), .second, .val (.int (-1 : Int32)), .val (.int (0 : Int32)), .val (.int (-1 : Int32)), .unset, .unset, .unset, .unset, .unset, .unset, .unset, .unset] [(.long (1 : Int64))])) tq → Steps p.tables e below (s₁.setTop (entryFrame m #[(.long q1), (.int (-1 : Int32)), (.int (0 : Int32))] 13)) tq := fun tq kq => pre6 tq (X4.laload hx (j := (0 : Int32)) (v := (.long (1 : Int64))) (by rw [e4]; exact Ar7.1) (State.isArrayOf_alike hZ.alike Ar7.2.1) Ar7.2.2 hin7 (Has.at Ah7 hin7 rfl) (g := (mkF m 28 #[.val (.long q1), .second, .val (.int (-1 : Int32)), .val (.int (0 : Int32)), .val (.int (-1 : Int32)), .unset, .unset, .unset, .unset, .unset, .unset, .unset, .unset] [(.int (0 : Int32)), (.ref sF)])) rfl rfl (hb hby d6_1_28) _ kq)
  have pre9 : ∀ tq, Steps p.tables e below (T4.setTop (mkF m 34 #[.val (.long q1), .second, .val (.int (-1 : Int32)), .val (.int (0 : Int32)), .val (.int (-1 : Int32)), .val (.long (1 : Int64)), .second, .unset, .unset, .unset, .unset, .unset, .unset] [(.long (1 : Int64)), (.long q1)])) tq → Steps p.tables e below (s₁.setTop (entryFrame m #[(.long q1), (.int (-1 : Int32)), (.int (0 : Int32))] 13)) tq := by
    refine fun tq kq => pre8 tq ?_
    show Steps p.tables e below (T4.setTop (mkF m 29 #[.val (.long q1), .second, .val (.int (-1 : Int32)), .val (.int (0 : Int32)), .val (.int (-1 : Int32)), .unset, .unset, .unset, .unset, .unset, .unset, .unset, .unset] [(.long (1 : Int64))])) _
    refine XS.lstore X4.here hx rfl (hb hby d6_1_29) rfl (l' := #[.val (.long q1), .second, .val (.int (-1 : Int32)), .val (.int (0 : Int32)), .val (.int (-1 : Int32)), .val (.long (1 : Int64)), .second, .unset, .unset, .unset, .unset, .unset, .unset]) rfl ?_
    show Steps p.tables e below (T4.setTop (mkF m 31 #[.val (.long q1), .second, .val (.int (-1 : Int32)), .val (.int (0 : Int32)), .val (.int (-1 : Int32)), .val (.long (1 : Int64)), .second, .unset, .unset, .unset, .unset, .unset, .unset] [])) _
    refine XS.lloadN X4.here hx rfl (hb hby d6_1_31) rfl ?_
    show Steps p.tables e below (T4.setTop (mkF m 32 #[.val (.long q1), .second, .val (.int (-1 : Int32)), .val (.int (0 : Int32)), .val (.int (-1 : Int32)), .val (.long (1 : Int64)), .second, .unset, .unset, .unset, .unset, .unset, .unset] [(.long q1)])) _
    refine XS.lload X4.here hx rfl (hb hby d6_1_32) rfl ?_
    exact kq
  have Z10 : n0 ≤ h0.size := Z0
  obtain ⟨_, _, ⟨T10, L10, k10, n10⟩, -, X10, ⟨Lc10, hQ10, l10, y10, z10⟩, st10⟩ := Jvm.LawKit.callS X4 hx (y := (⟨"java/lang/Math", "multiplyHigh", "(JJ)J"⟩ : MethodName)) hown (mvT hZ (hw _ (List.mem_of_getElem? (i := 32) rfl))) (mvT hZ (hw _ (List.mem_of_getElem? (i := 33) rfl))) (mvT hZ (hw _ (List.mem_of_getElem? (i := 24) rfl))) (mvT hZ (hw _ (List.mem_of_getElem? (i := 34) rfl))) (by decide) (backOf (W := 0) (rm7 l Z a0 hw [] q1  h0 n0 Z10 (hq1)) hZ (hw _ (List.mem_of_getElem? (i := 34) rfl)) (hw _ (List.mem_of_getElem? (i := 24) rfl)) (by decide) (by decide)) (g := (mkF m 34 #[.val (.long q1), .second, .val (.int (-1 : Int32)), .val (.int (0 : Int32)), .val (.int (-1 : Int32)), .val (.long (1 : Int64)), .second, .unset, .unset, .unset, .unset, .unset, .unset] [(.long (1 : Int64)), (.long q1)])) rfl (by rw [hml]; rfl) (argsL := [(.long q1), (.long (1 : Int64))]) (rest := []) (lenOf pd6_1_0 rfl) rfl (by show 2 * 0 + _ ≤ _; exact Nat.le_of_eq rfl) (hb hby d6_1_34) (fun _ _ => ⟨rfl, e4, (by decide : 0 + 0 ≤ _), (by decide : 0 + 0 ≤ _)⟩)
  dsimp only [Pt.U, Pt.locs, Pt.cells, Pt.slots] at X10 l10 y10 z10 st10 hQ10
  subst l10 y10 z10
  obtain ⟨r11, rfl, Nq10, ehq10, hq10⟩ := hQ10
  have N10 := Fr.app N0 Nq10
  have pre12 : ∀ tq, Steps p.tables e below (T10.setTop (mkF m 37 #[.val (.long q1), .second, .val (.int (-1 : Int32)), .val (.int (0 : Int32)), .val (.int (-1 : Int32)), .val (.long (1 : Int64)), .second, .unset, .unset, .unset, .unset, .unset, .unset] [(.long r11)])) tq → Steps p.tables e below (s₁.setTop (entryFrame m #[(.long q1), (.int (-1 : Int32)), (.int (0 : Int32))] 13)) tq := fun tq kq => pre9 tq (st10 _ kq)
  subst hq10
  obtain ⟨v14, hv_v14, pre13⟩ : ∃ v14 : Int64, v14 = (q1 * (1 : Int64)) ∧ (∀ tq, Steps p.tables e below (T10.setTop (mkF m 45 #[.val (.long q1), .second, .val (.int (-1 : Int32)), .val (.int (0 : Int32)), .val (.int (-1 : Int32)), .val (.long (1 : Int64)), .second, .val (.long (0 : Int64)), .second, .val (.long v14), .second, .unset, .unset] [])) tq → Steps p.tables e below (s₁.setTop (entryFrame m #[(.long q1), (.int (-1 : Int32)), (.int (0 : Int32))] 13)) tq) := by
    refine ⟨_, rfl, fun tq kq => pre12 tq ?_⟩
    show Steps p.tables e below (T10.setTop (mkF m 37 #[.val (.long q1), .second, .val (.int (-1 : Int32)), .val (.int (0 : Int32)), .val (.int (-1 : Int32)), .val (.long (1 : Int64)), .second, .unset, .unset, .unset, .unset, .unset, .unset] [(.long (0 : Int64))])) _
    refine XS.lstore X10.here hx rfl (hb hby d6_1_37) rfl (l' := #[.val (.long q1), .second, .val (.int (-1 : Int32)), .val (.int (0 : Int32)), .val (.int (-1 : Int32)), .val (.long (1 : Int64)), .second, .val (.long (0 : Int64)), .second, .unset, .unset, .unset, .unset]) rfl ?_
    show Steps p.tables e below (T10.setTop (mkF m 39 #[.val (.long q1), .second, .val (.int (-1 : Int32)), .val (.int (0 : Int32)), .val (.int (-1 : Int32)), .val (.long (1 : Int64)), .second, .val (.long (0 : Int64)), .second, .unset, .unset, .unset, .unset] [])) _
    refine XS.lloadN X10.here hx rfl (hb hby d6_1_39) rfl ?_
    show Steps p.tables e below (T10.setTop (mkF m 40 #[.val (.long q1), .second, .val (.int (-1 : Int32)), .val (.int (0 : Int32)), .val (.int (-1 : Int32)), .val (.long (1 : Int64)), .second, .val (.long (0 : Int64)), .second, .unset, .unset, .unset, .unset] [(.long q1)])) _
    refine XS.lload X10.here hx rfl (hb hby d6_1_40) rfl ?_
    show Steps p.tables e below (T10.setTop (mkF m 42 #[.val (.long q1), .second, .val (.int (-1 : Int32)), .val (.int (0 : Int32)), .val (.int (-1 : Int32)), .val (.long (1 : Int64)), .second, .val (.long (0 : Int64)), .second, .unset, .unset, .unset, .unset] [(.long (1 : Int64)), (.long q1)])) _
    refine XS.lmul X10.here hx rfl (hb hby d6_1_42) rfl ?_
    show Steps p.tables e below (T10.setTop (mkF m 43 #[.val (.long q1), .second, .val (.int (-1 : Int32)), .val (.int (0 : Int32)), .val (.int (-1 : Int32)), .val (.long (1 : Int64)), .second, .val (.long (0 : Int64)), .second, .unset, .unset, .unset, .unset] [(.long (q1 * (1 : Int64)))])) _
    refine XS.lstore X10.here hx rfl (hb hby d6_1_43) rfl (l' := #[.val (.long q1), .second, .val (.int (-1 : Int32)), .val (.int (0 : Int32)), .val (.int (-1 : Int32)), .val (.long (1 : Int64)), .second, .val (.long (0 : Int64)), .second, .val (.long (q1 * (1 : Int64))), .second, .unset, .unset]) rfl ?_
    exact kq
  have pre15 : ∀ tq, Steps p.tables e below (T10.setTop (mkF m 58 #[.val (.long q1), .second, .val (.int (-1 : Int32)), .val (.int (0 : Int32)), .val (.int (-1 : Int32)), .val (.long (1 : Int64)), .second, .val (.long (0 : Int64)), .second, .val (.long v14), .second, .unset, .unset] [])) tq → Steps p.tables e below (s₁.setTop (entryFrame m #[(.long q1), (.int (-1 : Int32)), (.int (0 : Int32))] 13)) tq := by
    refine fun tq kq => pre13 tq ?_
    show Steps p.tables e below (T10.setTop (mkF m 45 #[.val (.long q1), .second, .val (.int (-1 : Int32)), .val (.int (0 : Int32)), .val (.int (-1 : Int32)), .val (.long (1 : Int64)), .second, .val (.long (0 : Int64)), .second, .val (.long v14), .second, .unset, .unset] [])) _
    refine XS.iload X10.here hx rfl (hb hby d6_1_45) rfl ?_
    show Steps p.tables e below (T10.setTop (mkF m 47 #[.val (.long q1), .second, .val (.int (-1 : Int32)), .val (.int (0 : Int32)), .val (.int (-1 : Int32)), .val (.long (1 : Int64)), .second, .val (.long (0 : Int64)), .second, .val (.long v14), .second, .unset, .unset] [(.int (-1 : Int32))])) _
    refine XS.ifYes X10.here hx rfl (pc0 := 47) (pc' := 58) rfl (hb hby d6_1_47) rfl ((if0 _ _).trans (tlt (by decide : (-1 : Int32) < (0 : Int32))).1) (by decide) (by decide) ?_
    exact kq
  obtain ⟨v17, hv_v17, pre16⟩ : ∃ v17 : Int64, v17 = (((v14.toUInt64 >>> ((1 : Int32) &&& 0x3f).toInt64.toUInt64).toInt64) ||| (0 : Int64)) ∧ (∀ tq, Steps p.tables e below (T10.setTop (mkF m 75 #[.val (.long q1), .second, .val (.int (-1 : Int32)), .val (.int (0 : Int32)), .val (.int (-1 : Int32)), .val (.long (1 : Int64)), .second, .val (.long (0 : Int64)), .second, .val (.long v14), .second, .val (.long v17), .second] [])) tq → Steps p.tables e below (s₁.setTop (entryFrame m #[(.long q1), (.int (-1 : Int32)), (.int (0 : Int32))] 13)) tq) := by
    refine ⟨_, rfl, fun tq kq => pre15 tq ?_⟩
    show Steps p.tables e below (T10.setTop (mkF m 58 #[.val (.long q1), .second, .val (.int (-1 : Int32)), .val (.int (0 : Int32)), .val (.int (-1 : Int32)), .val (.long (1 : Int64)), .second, .val (.long (0 : Int64)), .second, .val (.long v14), .second, .unset, .unset] [])) _
    refine XS.lload X10.here hx rfl (hb hby d6_1_58) rfl ?_
    show Steps p.tables e below (T10.setTop (mkF m 60 #[.val (.long q1), .second, .val (.int (-1 : Int32)), .val (.int (0 : Int32)), .val (.int (-1 : Int32)), .val (.long (1 : Int64)), .second, .val (.long (0 : Int64)), .second, .val (.long v14), .second, .unset, .unset] [(.long v14)])) _
    refine XS.iload X10.here hx rfl (hb hby d6_1_60) rfl ?_
    show Steps p.tables e below (T10.setTop (mkF m 62 #[.val (.long q1), .second, .val (.int (-1 : Int32)), .val (.int (0 : Int32)), .val (.int (-1 : Int32)), .val (.long (1 : Int64)), .second, .val (.long (0 : Int64)), .second, .val (.long v14), .second, .unset, .unset] [(.int (-1 : Int32)), (.long v14)])) _
    refine XS.ineg X10.here hx rfl (hb hby d6_1_62) rfl ?_
    show Steps p.tables e below (T10.setTop (mkF m 63 #[.val (.long q1), .second, .val (.int (-1 : Int32)), .val (.int (0 : Int32)), .val (.int (-1 : Int32)), .val (.long (1 : Int64)), .second, .val (.long (0 : Int64)), .second, .val (.long v14), .second, .unset, .unset] [(.int (1 : Int32)), (.long v14)])) _
    refine XS.lushr X10.here hx rfl (hb hby d6_1_63) rfl ?_
    show Steps p.tables e below (T10.setTop (mkF m 64 #[.val (.long q1), .second, .val (.int (-1 : Int32)), .val (.int (0 : Int32)), .val (.int (-1 : Int32)), .val (.long (1 : Int64)), .second, .val (.long (0 : Int64)), .second, .val (.long v14), .second, .unset, .unset] [(.long ((v14.toUInt64 >>> ((1 : Int32) &&& 0x3f).toInt64.toUInt64).toInt64))])) _
    refine XS.lload X10.here hx rfl (hb hby d6_1_64) rfl ?_
    show Steps p.tables e below (T10.setTop (mkF m 66 #[.val (.long q1), .second, .val (.int (-1 : Int32)), .val (.int (0 : Int32)), .val (.int (-1 : Int32)), .val (.long (1 : Int64)), .second, .val (.long (0 : Int64)), .second, .val (.long v14), .second, .unset, .unset] [(.long (0 : Int64)), (.long ((v14.toUInt64 >>> ((1 : Int32) &&& 0x3f).toInt64.toUInt64).toInt64))])) _
    refine XS.bipush X10.here hx rfl (hb hby d6_1_66) ?_
    show Steps p.tables e below (T10.setTop (mkF m 68 #[.val (.long q1), .second, .val (.int (-1 : Int32)), .val (.int (0 : Int32)), .val (.int (-1 : Int32)), .val (.long (1 : Int64)), .second, .val (.long (0 : Int64)), .second, .val (.long v14), .second, .unset, .unset] [(.int (64 : Int32)), (.long (0 : Int64)), (.long ((v14.toUInt64 >>> ((1 : Int32) &&& 0x3f).toInt64.toUInt64).toInt64))])) _
    refine XS.iload X10.here hx rfl (hb hby d6_1_68) rfl ?_
    show Steps p.tables e below (T10.setTop (mkF m 70 #[.val (.long q1), .second, .val (.int (-1 : Int32)), .val (.int (0 : Int32)), .val (.int (-1 : Int32)), .val (.long (1 : Int64)), .second, .val (.long (0 : Int64)), .second, .val (.long v14), .second, .unset, .unset] [(.int (-1 : Int32)), (.int (64 : Int32)), (.long (0 : Int64)), (.long ((v14.toUInt64 >>> ((1 : Int32) &&& 0x3f).toInt64.toUInt64).toInt64))])) _
    refine XS.iadd X10.here hx rfl (hb hby d6_1_70) rfl ?_
    show Steps p.tables e below (T10.setTop (mkF m 71 #[.val (.long q1), .second, .val (.int (-1 : Int32)), .val (.int (0 : Int32)), .val (.int (-1 : Int32)), .val (.long (1 : Int64)), .second, .val (.long (0 : Int64)), .second, .val (.long v14), .second, .unset, .unset] [(.int (63 : Int32)), (.long (0 : Int64)), (.long ((v14.toUInt64 >>> ((1 : Int32) &&& 0x3f).toInt64.toUInt64).toInt64))])) _
    refine XS.lshl X10.here hx rfl (hb hby d6_1_71) rfl ?_
    show Steps p.tables e below (T10.setTop (mkF m 72 #[.val (.long q1), .second, .val (.int (-1 : Int32)), .val (.int (0 : Int32)), .val (.int (-1 : Int32)), .val (.long (1 : Int64)), .second, .val (.long (0 : Int64)), .second, .val (.long v14), .second, .unset, .unset] [(.long (0 : Int64)), (.long ((v14.toUInt64 >>> ((1 : Int32) &&& 0x3f).toInt64.toUInt64).toInt64))])) _
    refine XS.lor X10.here hx rfl (hb hby d6_1_72) rfl ?_
    show Steps p.tables e below (T10.setTop (mkF m 73 #[.val (.long q1), .second, .val (.int (-1 : Int32)), .val (.int (0 : Int32)), .val (.int (-1 : Int32)), .val (.long (1 : Int64)), .second, .val (.long (0 : Int64)), .second, .val (.long v14), .second, .unset, .unset] [(.long (((v14.toUInt64 >>> ((1 : Int32) &&& 0x3f).toInt64.toUInt64).toInt64) ||| (0 : Int64)))])) _
    refine XS.lstore X10.here hx rfl (hb hby d6_1_73) rfl (l' := #[.val (.long q1), .second, .val (.int (-1 : Int32)), .val (.int (0 : Int32)), .val (.int (-1 : Int32)), .val (.long (1 : Int64)), .second, .val (.long (0 : Int64)), .second, .val (.long v14), .second, .val (.long (((v14.toUInt64 >>> ((1 : Int32) &&& 0x3f).toInt64.toUInt64).toInt64) ||| (0 : Int64))), .second]) rfl ?_
    exact kq
  obtain ⟨v18, v19, hv_v19, hj20, pre20⟩ : ∃ v18 : Int32, ∃ v19 : Int64, v19 = ((2 : Int64) * v17) ∧ (((v14 <<< ((63 : Int32) &&& 0x3f).toInt64) = (0 : Int64) ∧ v18 = (0 : Int32)) ∨ (¬ ((v14 <<< ((63 : Int32) &&& 0x3f).toInt64) = (0 : Int64)) ∧ v18 = (1 : Int32))) ∧ (∀ tq, Steps p.tables e below (T10.setTop (mkF m 99 #[.val (.long q1), .second, .val (.int (-1 : Int32)), .val (.int (0 : Int32)), .val (.int (-1 : Int32)), .val (.long (1 : Int64)), .second, .val (.long (0 : Int64)), .second, .val (.long v14), .second, .val (.long v17), .second] [(.int v18), (.long v19)])) tq → Steps p.tables e below (s₁.setTop (entryFrame m #[(.long q1), (.int (-1 : Int32)), (.int (0 : Int32))] 13)) tq) := by
    by_cases hb0_91 : (v14 <<< ((63 : Int32) &&& 0x3f).toInt64) = (0 : Int64)
    · skip
      refine ⟨(0 : Int32), ((2 : Int64) * v17), rfl, Or.inl (⟨hb0_91, rfl⟩), fun tq kq => pre16 tq ?_⟩
      show Steps p.tables e below (T10.setTop (mkF m 75 #[.val (.long q1), .second, .val (.int (-1 : Int32)), .val (.int (0 : Int32)), .val (.int (-1 : Int32)), .val (.long (1 : Int64)), .second, .val (.long (0 : Int64)), .second, .val (.long v14), .second, .val (.long v17), .second] [])) _
      refine X10.ldc2Long hx hown (mvT hZ (hw _ (List.mem_of_getElem? (i := 26) rfl))) (g := (mkF m 75 #[.val (.long q1), .second, .val (.int (-1 : Int32)), .val (.int (0 : Int32)), .val (.int (-1 : Int32)), .val (.long (1 : Int64)), .second, .val (.long (0 : Int64)), .second, .val (.long v14), .second, .val (.long v17), .second] [])) rfl (hb hby d6_1_75) _ ?_
      show Steps p.tables e below (T10.setTop (mkF m 78 #[.val (.long q1), .second, .val (.int (-1 : Int32)), .val (.int (0 : Int32)), .val (.int (-1 : Int32)), .val (.long (1 : Int64)), .second, .val (.long (0 : Int64)), .second, .val (.long v14), .second, .val (.long v17), .second] [(.long (2 : Int64))])) _
      refine XS.lload X10.here hx rfl (hb hby d6_1_78) rfl ?_
      show Steps p.tables e below (T10.setTop (mkF m 80 #[.val (.long q1), .second, .val (.int (-1 : Int32)), .val (.int (0 : Int32)), .val (.int (-1 : Int32)), .val (.long (1 : Int64)), .second, .val (.long (0 : Int64)), .second, .val (.long v14), .second, .val (.long v17), .second] [(.long v17), (.long (2 : Int64))])) _
      refine XS.lmul X10.here hx rfl (hb hby d6_1_80) rfl ?_
      show Steps p.tables e below (T10.setTop (mkF m 81 #[.val (.long q1), .second, .val (.int (-1 : Int32)), .val (.int (0 : Int32)), .val (.int (-1 : Int32)), .val (.long (1 : Int64)), .second, .val (.long (0 : Int64)), .second, .val (.long v14), .second, .val (.long v17), .second] [(.long ((2 : Int64) * v17))])) _
      refine XS.lload X10.here hx rfl (hb hby d6_1_81) rfl ?_
      show Steps p.tables e below (T10.setTop (mkF m 83 #[.val (.long q1), .second, .val (.int (-1 : Int32)), .val (.int (0 : Int32)), .val (.int (-1 : Int32)), .val (.long (1 : Int64)), .second, .val (.long (0 : Int64)), .second, .val (.long v14), .second, .val (.long v17), .second] [(.long v14), (.long ((2 : Int64) * v17))])) _
      refine XS.bipush X10.here hx rfl (hb hby d6_1_83) ?_
      show Steps p.tables e below (T10.setTop (mkF m 85 #[.val (.long q1), .second, .val (.int (-1 : Int32)), .val (.int (0 : Int32)), .val (.int (-1 : Int32)), .val (.long (1 : Int64)), .second, .val (.long (0 : Int64)), .second, .val (.long v14), .second, .val (.long v17), .second] [(.int (64 : Int32)), (.long v14), (.long ((2 : Int64) * v17))])) _
      refine XS.iload X10.here hx rfl (hb hby d6_1_85) rfl ?_
      show Steps p.tables e below (T10.setTop (mkF m 87 #[.val (.long q1), .second, .val (.int (-1 : Int32)), .val (.int (0 : Int32)), .val (.int (-1 : Int32)), .val (.long (1 : Int64)), .second, .val (.long (0 : Int64)), .second, .val (.long v14), .second, .val (.long v17), .second] [(.int (-1 : Int32)), (.int (64 : Int32)), (.long v14), (.long ((2 : Int64) * v17))])) _
      refine XS.iadd X10.here hx rfl (hb hby d6_1_87) rfl ?_
      show Steps p.tables e below (T10.setTop (mkF m 88 #[.val (.long q1), .second, .val (.int (-1 : Int32)), .val (.int (0 : Int32)), .val (.int (-1 : Int32)), .val (.long (1 : Int64)), .second, .val (.long (0 : Int64)), .second, .val (.long v14), .second, .val (.long v17), .second] [(.int (63 : Int32)), (.long v14), (.long ((2 : Int64) * v17))])) _
      refine XS.lshl X10.here hx rfl (hb hby d6_1_88) rfl ?_
      show Steps p.tables e below (T10.setTop (mkF m 89 #[.val (.long q1), .second, .val (.int (-1 : Int32)), .val (.int (0 : Int32)), .val (.int (-1 : Int32)), .val (.long (1 : Int64)), .second, .val (.long (0 : Int64)), .second, .val (.long v14), .second, .val (.long v17), .second] [(.long (v14 <<< ((63 : Int32) &&& 0x3f).toInt64)), (.long ((2 : Int64) * v17))])) _
      refine XS.lconst X10.here hx rfl (hb hby d6_1_89) ?_
      show Steps p.tables e below (T10.setTop (mkF m 90 #[.val (.long q1), .second, .val (.int (-1 : Int32)), .val (.int (0 : Int32)), .val (.int (-1 : Int32)), .val (.long (1 : Int64)), .second, .val (.long (0 : Int64)), .second, .val (.long v14), .second, .val (.long v17), .second] [(.long (0 : Int64)), (.long (v14 <<< ((63 : Int32) &&& 0x3f).toInt64)), (.long ((2 : Int64) * v17))])) _
      refine XS.lcmp X10.here hx rfl (hb hby d6_1_90) rfl ?_
      show Steps p.tables e below (T10.setTop (mkF m 91 #[.val (.long q1), .second, .val (.int (-1 : Int32)), .val (.int (0 : Int32)), .val (.int (-1 : Int32)), .val (.long (1 : Int64)), .second, .val (.long (0 : Int64)), .second, .val (.long v14), .second, .val (.long v17), .second] [(.int (lcmpW (v14 <<< ((63 : Int32) &&& 0x3f).toInt64) (0 : Int64))), (.long ((2 : Int64) * v17))])) _
      refine XS.ifNo X10.here hx rfl (hb hby d6_1_91) rfl (jteq hb0_91).2 ?_
      show Steps p.tables e below (T10.setTop (mkF m 94 #[.val (.long q1), .second, .val (.int (-1 : Int32)), .val (.int (0 : Int32)), .val (.int (-1 : Int32)), .val (.long (1 : Int64)), .second, .val (.long (0 : Int64)), .second, .val (.long v14), .second, .val (.long v17), .second] [(.long ((2 : Int64) * v17))])) _
      refine XS.iconst X10.here hx rfl (hb hby d6_1_94) ?_
      show Steps p.tables e below (T10.setTop (mkF m 95 #[.val (.long q1), .second, .val (.int (-1 : Int32)), .val (.int (0 : Int32)), .val (.int (-1 : Int32)), .val (.long (1 : Int64)), .second, .val (.long (0 : Int64)), .second, .val (.long v14), .second, .val (.long v17), .second] [(.int (0 : Int32)), (.long ((2 : Int64) * v17))])) _
      refine XS.goto X10.here hx rfl (pc0 := 95) (pc' := 99) rfl (hb hby d6_1_95) (by decide) (by decide) ?_
      exact kq
    · skip
      refine ⟨(1 : Int32), ((2 : Int64) * v17), rfl, Or.inr (⟨hb0_91, rfl⟩), fun tq kq => pre16 tq ?_⟩
      show Steps p.tables e below (T10.setTop (mkF m 75 #[.val (.long q1), .second, .val (.int (-1 : Int32)), .val (.int (0 : Int32)), .val (.int (-1 : Int32)), .val (.long (1 : Int64)), .second, .val (.long (0 : Int64)), .second, .val (.long v14), .second, .val (.long v17), .second] [])) _
      refine X10.ldc2Long hx hown (mvT hZ (hw _ (List.mem_of_getElem? (i := 26) rfl))) (g := (mkF m 75 #[.val (.long q1), .second, .val (.int (-1 : Int32)), .val (.int (0 : Int32)), .val (.int (-1 : Int32)), .val (.long (1 : Int64)), .second, .val (.long (0 : Int64)), .second, .val (.long v14), .second, .val (.long v17), .second] [])) rfl (hb hby d6_1_75) _ ?_
      show Steps p.tables e below (T10.setTop (mkF m 78 #[.val (.long q1), .second, .val (.int (-1 : Int32)), .val (.int (0 : Int32)), .val (.int (-1 : Int32)), .val (.long (1 : Int64)), .second, .val (.long (0 : Int64)), .second, .val (.long v14), .second, .val (.long v17), .second] [(.long (2 : Int64))])) _
      refine XS.lload X10.here hx rfl (hb hby d6_1_78) rfl ?_
      show Steps p.tables e below (T10.setTop (mkF m 80 #[.val (.long q1), .second, .val (.int (-1 : Int32)), .val (.int (0 : Int32)), .val (.int (-1 : Int32)), .val (.long (1 : Int64)), .second, .val (.long (0 : Int64)), .second, .val (.long v14), .second, .val (.long v17), .second] [(.long v17), (.long (2 : Int64))])) _
      refine XS.lmul X10.here hx rfl (hb hby d6_1_80) rfl ?_
      show Steps p.tables e below (T10.setTop (mkF m 81 #[.val (.long q1), .second, .val (.int (-1 : Int32)), .val (.int (0 : Int32)), .val (.int (-1 : Int32)), .val (.long (1 : Int64)), .second, .val (.long (0 : Int64)), .second, .val (.long v14), .second, .val (.long v17), .second] [(.long ((2 : Int64) * v17))])) _
      refine XS.lload X10.here hx rfl (hb hby d6_1_81) rfl ?_
      show Steps p.tables e below (T10.setTop (mkF m 83 #[.val (.long q1), .second, .val (.int (-1 : Int32)), .val (.int (0 : Int32)), .val (.int (-1 : Int32)), .val (.long (1 : Int64)), .second, .val (.long (0 : Int64)), .second, .val (.long v14), .second, .val (.long v17), .second] [(.long v14), (.long ((2 : Int64) * v17))])) _
      refine XS.bipush X10.here hx rfl (hb hby d6_1_83) ?_
      show Steps p.tables e below (T10.setTop (mkF m 85 #[.val (.long q1), .second, .val (.int (-1 : Int32)), .val (.int (0 : Int32)), .val (.int (-1 : Int32)), .val (.long (1 : Int64)), .second, .val (.long (0 : Int64)), .second, .val (.long v14), .second, .val (.long v17), .second] [(.int (64 : Int32)), (.long v14), (.long ((2 : Int64) * v17))])) _
      refine XS.iload X10.here hx rfl (hb hby d6_1_85) rfl ?_
      show Steps p.tables e below (T10.setTop (mkF m 87 #[.val (.long q1), .second, .val (.int (-1 : Int32)), .val (.int (0 : Int32)), .val (.int (-1 : Int32)), .val (.long (1 : Int64)), .second, .val (.long (0 : Int64)), .second, .val (.long v14), .second, .val (.long v17), .second] [(.int (-1 : Int32)), (.int (64 : Int32)), (.long v14), (.long ((2 : Int64) * v17))])) _
      refine XS.iadd X10.here hx rfl (hb hby d6_1_87) rfl ?_
      show Steps p.tables e below (T10.setTop (mkF m 88 #[.val (.long q1), .second, .val (.int (-1 : Int32)), .val (.int (0 : Int32)), .val (.int (-1 : Int32)), .val (.long (1 : Int64)), .second, .val (.long (0 : Int64)), .second, .val (.long v14), .second, .val (.long v17), .second] [(.int (63 : Int32)), (.long v14), (.long ((2 : Int64) * v17))])) _
      refine XS.lshl X10.here hx rfl (hb hby d6_1_88) rfl ?_
      show Steps p.tables e below (T10.setTop (mkF m 89 #[.val (.long q1), .second, .val (.int (-1 : Int32)), .val (.int (0 : Int32)), .val (.int (-1 : Int32)), .val (.long (1 : Int64)), .second, .val (.long (0 : Int64)), .second, .val (.long v14), .second, .val (.long v17), .second] [(.long (v14 <<< ((63 : Int32) &&& 0x3f).toInt64)), (.long ((2 : Int64) * v17))])) _
      refine XS.lconst X10.here hx rfl (hb hby d6_1_89) ?_
      show Steps p.tables e below (T10.setTop (mkF m 90 #[.val (.long q1), .second, .val (.int (-1 : Int32)), .val (.int (0 : Int32)), .val (.int (-1 : Int32)), .val (.long (1 : Int64)), .second, .val (.long (0 : Int64)), .second, .val (.long v14), .second, .val (.long v17), .second] [(.long (0 : Int64)), (.long (v14 <<< ((63 : Int32) &&& 0x3f).toInt64)), (.long ((2 : Int64) * v17))])) _
      refine XS.lcmp X10.here hx rfl (hb hby d6_1_90) rfl ?_
      show Steps p.tables e below (T10.setTop (mkF m 91 #[.val (.long q1), .second, .val (.int (-1 : Int32)), .val (.int (0 : Int32)), .val (.int (-1 : Int32)), .val (.long (1 : Int64)), .second, .val (.long (0 : Int64)), .second, .val (.long v14), .second, .val (.long v17), .second] [(.int (lcmpW (v14 <<< ((63 : Int32) &&& 0x3f).toInt64) (0 : Int64))), (.long ((2 : Int64) * v17))])) _
      refine XS.ifYes X10.here hx rfl (pc0 := 91) (pc' := 98) rfl (hb hby d6_1_91) rfl (jfeq hb0_91).2 (by decide) (by decide) ?_
      show Steps p.tables e below (T10.setTop (mkF m 98 #[.val (.long q1), .second, .val (.int (-1 : Int32)), .val (.int (0 : Int32)), .val (.int (-1 : Int32)), .val (.long (1 : Int64)), .second, .val (.long (0 : Int64)), .second, .val (.long v14), .second, .val (.long v17), .second] [(.long ((2 : Int64) * v17))])) _
      refine XS.iconst X10.here hx rfl (hb hby d6_1_98) ?_
      exact kq
  obtain ⟨fs, hr, hrun, hended, hW, hsame⟩ := X10.leave (v := some (.long (v19 + (v18.toInt64)))) (fun h => by rw [Bd.returns] at h; cases h)
  refine ⟨_, _, pre20 _ ?_, hrun, hended, _, _, rfl, ?_, ⟨_, rfl⟩, hW, hsame.mono (by decide) (by decide)⟩
  · skip
    show Steps p.tables e below (T10.setTop (mkF m 99 #[.val (.long q1), .second, .val (.int (-1 : Int32)), .val (.int (0 : Int32)), .val (.int (-1 : Int32)), .val (.long (1 : Int64)), .second, .val (.long (0 : Int64)), .second, .val (.long v14), .second, .val (.long v17), .second] [(.int v18), (.long v19)])) _
    refine XS.i2l X10.here hx rfl (hb hby d6_1_99) rfl ?_
    show Steps p.tables e below (T10.setTop (mkF m 100 #[.val (.long q1), .second, .val (.int (-1 : Int32)), .val (.int (0 : Int32)), .val (.int (-1 : Int32)), .val (.long (1 : Int64)), .second, .val (.long (0 : Int64)), .second, .val (.long v14), .second, .val (.long v17), .second] [(.long (v18.toInt64)), (.long v19)])) _
    refine XS.ladd X10.here hx rfl (hb hby d6_1_100) rfl ?_
    show Steps p.tables e below (T10.setTop (mkF m 101 #[.val (.long q1), .second, .val (.int (-1 : Int32)), .val (.int (0 : Int32)), .val (.int (-1 : Int32)), .val (.long (1 : Int64)), .second, .val (.long (0 : Int64)), .second, .val (.long v14), .second, .val (.long v17), .second] [(.long (v19 + (v18.toInt64)))])) _
    exact X10.lreturnOut hx Bd.returns (hb hby d6_1_101) hr
  · show Q6_1 Z q1 sF kF h0 n0 _ T10.heap _
    rw [ehq10]
    refine ⟨(v19 + (v18.toInt64)), rfl, N10, rfl, ?_⟩
    exact own_tu1 hq1.1 hq1.2 hv_v14 hv_v17 hv_v19 hj20
/-! body 6_ge -/
theorem d6_ge_0 : decode prog_103_method_7_code 0 = .ok (.iload_n 2, 1) := by decide +kernel
theorem d6_ge_1 : decode prog_103_method_7_code 1 = .ok (.iload_n 3, 1) := by decide +kernel
theorem d6_ge_2 : decode prog_103_method_7_code 2 = .ok (.isub, 1) := by decide +kernel
theorem d6_ge_3 : decode prog_103_method_7_code 3 = .ok (.istore 4, 2) := by decide +kernel
theorem d6_ge_5 : decode prog_103_method_7_code 5 = .ok (.iload_n 3, 1) := by decide +kernel
theorem d6_ge_6 : decode prog_103_method_7_code 6 = .ok (.ifCond .gt 96, 3) := by decide +kernel
theorem d6_ge_9 : decode prog_103_method_7_code 9 = .ok (.iload_n 3, 1) := by decide +kernel
theorem d6_ge_10 : decode prog_103_method_7_code 10 = .ok (.ineg, 1) := by decide +kernel
theorem d6_ge_11 : decode prog_103_method_7_code 11 = .ok (.bipush 27, 2) := by decide +kernel
theorem d6_ge_13 : decode prog_103_method_7_code 13 = .ok (.if_icmp .gt 89, 3) := by decide +kernel
theorem d6_ge_16 : decode prog_103_method_7_code 16 = .ok (.iload 4, 2) := by decide +kernel
theorem d6_ge_18 : decode prog_103_method_7_code 18 = .ok (.bipush (-64), 2) := by decide +kernel
theorem d6_ge_20 : decode prog_103_method_7_code 20 = .ok (.if_icmp .le 82, 3) := by decide +kernel
theorem d6_ge_23 : decode prog_103_method_7_code 23 = .ok (.getstatic 79, 3) := by decide +kernel
theorem d6_ge_26 : decode prog_103_method_7_code 26 = .ok (.iload_n 3, 1) := by decide +kernel
theorem d6_ge_27 : decode prog_103_method_7_code 27 = .ok (.ineg, 1) := by decide +kernel
theorem d6_ge_28 : decode prog_103_method_7_code 28 = .ok (.laload, 1) := by decide +kernel
theorem d6_ge_29 : decode prog_103_method_7_code 29 = .ok (.lstore 5, 2) := by decide +kernel
theorem d6_ge_31 : decode prog_103_method_7_code 31 = .ok (.lload_n 0, 1) := by decide +kernel
theorem d6_ge_32 : decode prog_103_method_7_code 32 = .ok (.lload 5, 2) := by decide +kernel
theorem d6_ge_34 : decode prog_103_method_7_code 34 = .ok (.invokestatic 83, 3) := by decide +kernel
theorem d6_ge_37 : decode prog_103_method_7_code 37 = .ok (.lstore 7, 2) := by decide +kernel
theorem d6_ge_39 : decode prog_103_method_7_code 39 = .ok (.lload_n 0, 1) := by decide +kernel
theorem d6_ge_40 : decode prog_103_method_7_code 40 = .ok (.lload 5, 2) := by decide +kernel
theorem d6_ge_42 : decode prog_103_method_7_code 42 = .ok (.lmul, 1) := by decide +kernel
theorem d6_ge_43 : decode prog_103_method_7_code 43 = .ok (.lstore 9, 2) := by decide +kernel
theorem d6_ge_45 : decode prog_103_method_7_code 45 = .ok (.iload 4, 2) := by decide +kernel
theorem d6_ge_47 : decode prog_103_method_7_code 47 = .ok (.ifCond .lt 11, 3) := by decide +kernel
theorem d6_ge_50 : decode prog_103_method_7_code 50 = .ok (.lload 9, 2) := by decide +kernel
theorem d6_ge_52 : decode prog_103_method_7_code 52 = .ok (.iload 4, 2) := by decide +kernel
theorem d6_ge_54 : decode prog_103_method_7_code 54 = .ok (.iconst 1, 1) := by decide +kernel
theorem d6_ge_55 : decode prog_103_method_7_code 55 = .ok (.iadd, 1) := by decide +kernel
theorem d6_ge_56 : decode prog_103_method_7_code 56 = .ok (.lshl, 1) := by decide +kernel
theorem d6_ge_57 : decode prog_103_method_7_code 57 = .ok (.lreturn, 1) := by decide +kernel
theorem pn_6_ge : plainName "com/example/partwise/partwise/storage/DecimalRange" = true := by first | (simp [plainName, overriddenIn]; done) | decide +kernel
theorem pd6_ge_0 : parseMethodDescriptor "(JJ)J" = some ⟨[.long, .long], some .long⟩ := by decide +kernel
theorem ef_6_ge (m : MethodId) (q1 : Int64) (p2 : Int32) : entryFrame m #[(.long q1), (.int p2), (.int (0 : Int32))] 13 = mkF m 0 #[.val (.long q1), .second, .val (.int p2), .val (.int (0 : Int32)), .unset, .unset, .unset, .unset, .unset, .unset, .unset, .unset, .unset] [] := by first | (simp [entryFrame, mkF, argsToLocals, Value.category]; done) | rfl
def Q6_ge (Z : State) (q1 : Int64) (p2 : Int32) (sF : Addr) (kF : ClassId) (sh : Nat) (h0 : Heap) (n0 : Nat) (v : Option Value) (h : Heap) (L : List Loc) : Prop := ∃ r : Int64, v = some (.long r) ∧ Fr n0 L ∧ h = h0 ∧ (r.toInt = q1.toInt * 2 ^ (sh + 1))
set_option maxRecDepth 65536 in
set_option maxHeartbeats 40000000 in
theorem rm6_ge (l : Launch) (Z : State) (a0 : Array Value) (hw : ∀ d ∈ tables_1, d.before a0 Z = true) (ws : List Jvm.Cond) (q1 : Int64) (p2 : Int32) (sF : Addr) (kF : ClassId) (sh : Nat) (h0 : Heap) (n0 : Nat) (Z0 : n0 ≤ h0.size) (hq1 : 0 ≤ q1.toInt ∧ q1.toInt < 2 ^ 55) (S_FIVES : Sta Z h0 "com/example/partwise/partwise/storage/DecimalRange" "FIVES" "[J" (.ref sF)) (V_sF : Arv Z h0 sF kF .long (28 : Int32) [(.long (1 : Int64)), (.long (5 : Int64)), (.long (25 : Int64)), (.long (125 : Int64)), (.long (625 : Int64)), (.long (3125 : Int64)), (.long (15625 : Int64)), (.long (78125 : Int64)), (.long (390625 : Int64)), (.long (1953125 : Int64)), (.long (9765625 : Int64)), (.long (48828125 : Int64)), (.long (244140625 : Int64)), (.long (1220703125 : Int64)), (.long (6103515625 : Int64)), (.long (30517578125 : Int64)), (.long (152587890625 : Int64)), (.long (762939453125 : Int64)), (.long (3814697265625 : Int64)), (.long (19073486328125 : Int64)), (.long (95367431640625 : Int64)), (.long (476837158203125 : Int64)), (.long (2384185791015625 : Int64)), (.long (11920928955078125 : Int64)), (.long (59604644775390625 : Int64)), (.long (298023223876953125 : Int64)), (.long (1490116119384765625 : Int64)), (.long (7450580596923828125 : Int64))] (.long (0 : Int64))) (hsh : p2.toInt = (sh : Int) ∧ sh ≤ 6) :
    MetFree l (⟨"com/example/partwise/partwise/storage/DecimalRange", "twiceUnits", "(JII)J"⟩ : MethodName) (head1 (Jvm.Cond.code (⟨"com/example/partwise/partwise/storage/DecimalRange", "twiceUnits", "(JII)J"⟩ : MethodName) prog_103_method_7_code 13 (some .long) :: ws) ({ frames := 1, cells := 0, slots := 0, locals := 31 } : Room)) (fun a U => a = #[(.long q1), (.int p2), (.int (0 : Int32))] ∧ Z.Warmed39 U.vm ∧ U.heap = h0) (fun _ _ _ _ _ => True) (fun _ U o U' => ∃ v L, o = .returned v ∧ Q6_ge Z q1 p2 sF kF sh h0 n0 v U'.heap L ∧ FrameEnd U o U' L ({ frames := 1, cells := 0, slots := 0, locals := 31 } : Room).cells ({ frames := 1, cells := 0, slots := 0, locals := 31 } : Room).slots) := by
  refine MetFree.of_bodySF (plainFor_of_name pn_6_ge) hisR ?_
  intro p e s m args below meth c s₁ Bd hml0 hP hK
  obtain ⟨rfl, hZ, hh⟩ := hP
  have hx := Bd.exec
  have hby := Bd.bytes
  have hml : c.maxLocals = 13 := hml0
  have hown : s.vm.findClass "com/example/partwise/partwise/storage/DecimalRange" = some m.cls := findClass_of_methodNamed Bd.named
  have hnm := (name_of_methodNamed Bd.named Bd.method).1
  have X0 : Stand p l e ({ frames := 1, cells := 0, slots := 0, locals := 31 } : Room) s m #[(.long q1), (.int p2), (.int (0 : Int32))] below meth c s₁ [] 0 0 := Stand.of_body Bd
  have e0 : s₁.heap = h0 := by rw [← hh, Bd.state]; rfl
  have N0 := Fr.nil n0
  have pre0 : ∀ tq, Steps p.tables e below (s₁.setTop (mkF m 0 #[.val (.long q1), .second, .val (.int p2), .val (.int (0 : Int32)), .unset, .unset, .unset, .unset, .unset, .unset, .unset, .unset, .unset] [])) tq → Steps p.tables e below (s₁.setTop (entryFrame m #[(.long q1), (.int p2), (.int (0 : Int32))] 13)) tq := fun tq kq => castTop (ef_6_ge m q1 p2) kq
  obtain ⟨v2, hv_v2, pre1⟩ : ∃ v2 : Int32, v2 = (p2 - (0 : Int32)) ∧ (∀ tq, Steps p.tables e below (s₁.setTop (mkF m 5 #[.val (.long q1), .second, .val (.int p2), .val (.int (0 : Int32)), .val (.int v2), .unset, .unset, .unset, .unset, .unset, .unset, .unset, .unset] [])) tq → Steps p.tables e below (s₁.setTop (entryFrame m #[(.long q1), (.int p2), (.int (0 : Int32))] 13)) tq) := by
    refine ⟨_, rfl, fun tq kq => pre0 tq ?_⟩
    show Steps p.tables e below (s₁.setTop (mkF m 0 #[.val (.long q1), .second, .val (.int p2), .val (.int (0 : Int32)), .unset, .unset, .unset, .unset, .unset, .unset, .unset, .unset, .unset] [])) _
    refine XS.iloadN X0.here hx rfl (hb hby d6_ge_0) rfl ?_
    show Steps p.tables e below (s₁.setTop (mkF m 1 #[.val (.long q1), .second, .val (.int p2), .val (.int (0 : Int32)), .unset, .unset, .unset, .unset, .unset, .unset, .unset, .unset, .unset] [(.int p2)])) _
    refine XS.iloadN X0.here hx rfl (hb hby d6_ge_1) rfl ?_
    show Steps p.tables e below (s₁.setTop (mkF m 2 #[.val (.long q1), .second, .val (.int p2), .val (.int (0 : Int32)), .unset, .unset, .unset, .unset, .unset, .unset, .unset, .unset, .unset] [(.int (0 : Int32)), (.int p2)])) _
    refine XS.isub X0.here hx rfl (hb hby d6_ge_2) rfl ?_
    show Steps p.tables e below (s₁.setTop (mkF m 3 #[.val (.long q1), .second, .val (.int p2), .val (.int (0 : Int32)), .unset, .unset, .unset, .unset, .unset, .unset, .unset, .unset, .unset] [(.int (p2 - (0 : Int32)))])) _
    refine XS.istore X0.here hx rfl (hb hby d6_ge_3) rfl (l' := #[.val (.long q1), .second, .val (.int p2), .val (.int (0 : Int32)), .val (.int (p2 - (0 : Int32))), .unset, .unset, .unset, .unset, .unset, .unset, .unset, .unset]) rfl ?_
    exact kq
  have hp : v2.toInt = (sh : Int) := by rw [hv_v2, Int32.sub_zero]; exact hsh.1
  have pre3 : ∀ tq, Steps p.tables e below (s₁.setTop (mkF m 9 #[.val (.long q1), .second, .val (.int p2), .val (.int (0 : Int32)), .val (.int v2), .unset, .unset, .unset, .unset, .unset, .unset, .unset, .unset] [])) tq → Steps p.tables e below (s₁.setTop (entryFrame m #[(.long q1), (.int p2), (.int (0 : Int32))] 13)) tq := by
    refine fun tq kq => pre1 tq ?_
    show Steps p.tables e below (s₁.setTop (mkF m 5 #[.val (.long q1), .second, .val (.int p2), .val (.int (0 : Int32)), .val (.int v2), .unset, .unset, .unset, .unset, .unset, .unset, .unset, .unset] [])) _
    refine XS.iloadN X0.here hx rfl (hb hby d6_ge_5) rfl ?_
    show Steps p.tables e below (s₁.setTop (mkF m 6 #[.val (.long q1), .second, .val (.int p2), .val (.int (0 : Int32)), .val (.int v2), .unset, .unset, .unset, .unset, .unset, .unset, .unset, .unset] [(.int (0 : Int32))])) _
    refine XS.ifNo X0.here hx rfl (hb hby d6_ge_6) rfl ((if0 _ _).trans (flt (by decide : ¬ ((0 : Int32) < (0 : Int32)))).2.2.1) ?_
    exact kq
  have pre4 : ∀ tq, Steps p.tables e below (s₁.setTop (mkF m 16 #[.val (.long q1), .second, .val (.int p2), .val (.int (0 : Int32)), .val (.int v2), .unset, .unset, .unset, .unset, .unset, .unset, .unset, .unset] [])) tq → Steps p.tables e below (s₁.setTop (entryFrame m #[(.long q1), (.int p2), (.int (0 : Int32))] 13)) tq := by
    refine fun tq kq => pre3 tq ?_
    show Steps p.tables e below (s₁.setTop (mkF m 9 #[.val (.long q1), .second, .val (.int p2), .val (.int (0 : Int32)), .val (.int v2), .unset, .unset, .unset, .unset, .unset, .unset, .unset, .unset] [])) _
    refine XS.iloadN X0.here hx rfl (hb hby d6_ge_9) rfl ?_
    show Steps p.tables e below (s₁.setTop (mkF m 10 #[.val (.long q1), .second, .val (.int p2), .val (.int (0 : Int32)), .val (.int v2), .unset, .unset, .unset, .unset, .unset, .unset, .unset, .unset] [(.int (0 : Int32))])) _
    refine XS.ineg X0.here hx rfl (hb hby d6_ge_10) rfl ?_
    show Steps p.tables e below (s₁.setTop (mkF m 11 #[.val (.long q1), .second, .val (.int p2), .val (.int (0 : Int32)), .val (.int v2), .unset, .unset, .unset, .unset, .unset, .unset, .unset, .unset] [(.int (0 : Int32))])) _
    refine XS.bipush X0.here hx rfl (hb hby d6_ge_11) ?_
    show Steps p.tables e below (s₁.setTop (mkF m 13 #[.val (.long q1), .second, .val (.int p2), .val (.int (0 : Int32)), .val (.int v2), .unset, .unset, .unset, .unset, .unset, .unset, .unset, .unset] [(.int (27 : Int32)), (.int (0 : Int32))])) _
    refine XS.icmpNo X0.here hx rfl (hb hby d6_ge_13) rfl (flt (by decide : ¬ ((27 : Int32) < (0 : Int32)))).2.2.1 ?_
    exact kq
  have hc20 : (-64 : Int32) < v2 := by (rw [Int32.lt_iff_toInt_lt, hp, show (-64 : Int32).toInt = -64 from by decide]; omega)
  have pre5 : ∀ tq, Steps p.tables e below (s₁.setTop (mkF m 23 #[.val (.long q1), .second, .val (.int p2), .val (.int (0 : Int32)), .val (.int v2), .unset, .unset, .unset, .unset, .unset, .unset, .unset, .unset] [])) tq → Steps p.tables e below (s₁.setTop (entryFrame m #[(.long q1), (.int p2), (.int (0 : Int32))] 13)) tq := by
    refine fun tq kq => pre4 tq ?_
    show Steps p.tables e below (s₁.setTop (mkF m 16 #[.val (.long q1), .second, .val (.int p2), .val (.int (0 : Int32)), .val (.int v2), .unset, .unset, .unset, .unset, .unset, .unset, .unset, .unset] [])) _
    refine XS.iload X0.here hx rfl (hb hby d6_ge_16) rfl ?_
    show Steps p.tables e below (s₁.setTop (mkF m 18 #[.val (.long q1), .second, .val (.int p2), .val (.int (0 : Int32)), .val (.int v2), .unset, .unset, .unset, .unset, .unset, .unset, .unset, .unset] [(.int v2)])) _
    refine XS.bipush X0.here hx rfl (hb hby d6_ge_18) ?_
    show Steps p.tables e below (s₁.setTop (mkF m 20 #[.val (.long q1), .second, .val (.int p2), .val (.int (0 : Int32)), .val (.int v2), .unset, .unset, .unset, .unset, .unset, .unset, .unset, .unset] [(.int (-64 : Int32)), (.int v2)])) _
    refine XS.icmpNo X0.here hx rfl (hb hby d6_ge_20) rfl (tlt hc20).2.2.2 ?_
    exact kq
  obtain ⟨T6, X6, e6, st6⟩ := getS2 X0 hx hZ hown (host := "") (Or.inl (hw _ (List.mem_of_getElem? (i := 30) rfl))) Via.refl e0 S_FIVES (g := (mkF m 23 #[.val (.long q1), .second, .val (.int p2), .val (.int (0 : Int32)), .val (.int v2), .unset, .unset, .unset, .unset, .unset, .unset, .unset, .unset] [])) rfl (hb hby d6_ge_23)
  have pre7 : ∀ tq, Steps p.tables e below (T6.setTop (mkF m 26 #[.val (.long q1), .second, .val (.int p2), .val (.int (0 : Int32)), .val (.int v2), .unset, .unset, .unset, .unset, .unset, .unset, .unset, .unset] [(.ref sF)])) tq → Steps p.tables e below (s₁.setTop (entryFrame m #[(.long q1), (.int p2), (.int (0 : Int32))] 13)) tq := fun tq kq => pre5 tq (st6 _ kq)
  have pre8 : ∀ tq, Steps p.tables e below (T6.setTop (mkF m 28 #[.val (.long q1), .second, .val (.int p2), .val (.int (0 : Int32)), .val (.int v2), .unset, .unset, .unset, .unset, .unset, .unset, .unset, .unset] [(.int (0 : Int32)), (.ref sF)])) tq → Steps p.tables e below (s₁.setTop (entryFrame m #[(.long q1), (.int p2), (.int (0 : Int32))] 13)) tq := by
    refine fun tq kq => pre7 tq ?_
    show Steps p.tables e below (T6.setTop (mkF m 26 #[.val (.long q1), .second, .val (.int p2), .val (.int (0 : Int32)), .val (.int v2), .unset, .unset, .unset, .unset, .unset, .unset, .unset, .unset] [(.ref sF)])) _
    refine XS.iloadN X6.here hx rfl (hb hby d6_ge_26) rfl ?_
    show Steps p.tables e below (T6.setTop (mkF m 27 #[.val (.long q1), .second, .val (.int p2), .val (.int (0 : Int32)), .val (.int v2), .unset, .unset, .unset, .unset, .unset, .unset, .unset, .unset] [(.int (0 : Int32)), (.ref sF)])) _
    refine XS.ineg X6.here hx rfl (hb hby d6_ge_27) rfl ?_
    exact kq
  have Vc9 := V_sF
  obtain ⟨cl9, Ar9, Aq9, As9, An9, Ah9, Ag9⟩ := Vc9
  have hin9 : ¬ ((0 : Int32) < 0 ∨ cl9.slots.size ≤ ((0 : Int32)).toNatClampNeg) := inb_of As9 ⟨by decide, by decide⟩
  have pre10 : ∀ tq, Steps p.tables e below (T6.setTop (mkF m 29 #[.val (.long q1), .second, .val (.int p2), .val (.int (0 : Int32)), .val (.int v2), .unset, .unset, .unset, .unset, .unset, .unset, .unset, .unset] [(.long (1 : Int64))])) tq → Steps p.tables e below (s₁.setTop (entryFrame m #[(.long q1), (.int p2), (.int (0 : Int32))] 13)) tq := fun tq kq => pre8 tq (X6.laload hx (j := (0 : Int32)) (v := (.long (1 : Int64))) (by rw [e6]; exact Ar9.1) (State.isArrayOf_alike hZ.alike Ar9.2.1) Ar9.2.2 hin9 (Has.at Ah9 hin9 rfl) (g := (mkF m 28 #[.val (.long q1), .second, .val (.int p2), .val (.int (0 : Int32)), .val (.int v2), .unset, .unset, .unset, .unset, .unset, .unset, .unset, .unset] [(.int (0 : Int32)), (.ref sF)])) rfl rfl (hb hby d6_ge_28) _ kq)
  have pre11 : ∀ tq, Steps p.tables e below (T6.setTop (mkF m 34 #[.val (.long q1), .second, .val (.int p2), .val (.int (0 : Int32)), .val (.int v2), .val (.long (1 : Int64)), .second, .unset, .unset, .unset, .unset, .unset, .unset] [(.long (1 : Int64)), (.long q1)])) tq → Steps p.tables e below (s₁.setTop (entryFrame m #[(.long q1), (.int p2), (.int (0 : Int32))] 13)) tq := by
    refine fun tq kq => pre10 tq ?_
    show Steps p.tables e below (T6.setTop (mkF m 29 #[.val (.long q1), .second, .val (.int p2), .val (.int (0 : Int32)), .val (.int v2), .unset, .unset, .unset, .unset, .unset, .unset, .unset, .unset] [(.long (1 : Int64))])) _
    refine XS.lstore X6.here hx rfl (hb hby d6_ge_29) rfl (l' := #[.val (.long q1), .second, .val (.int p2), .val (.int (0 : Int32)), .val (.int v2), .val (.long (1 : Int64)), .second, .unset, .unset, .unset, .unset, .unset, .unset]) rfl ?_
    show Steps p.tables e below (T6.setTop (mkF m 31 #[.val (.long q1), .second, .val (.int p2), .val (.int (0 : Int32)), .val (.int v2), .val (.long (1 : Int64)), .second, .unset, .unset, .unset, .unset, .unset, .unset] [])) _
    refine XS.lloadN X6.here hx rfl (hb hby d6_ge_31) rfl ?_
    show Steps p.tables e below (T6.setTop (mkF m 32 #[.val (.long q1), .second, .val (.int p2), .val (.int (0 : Int32)), .val (.int v2), .val (.long (1 : Int64)), .second, .unset, .unset, .unset, .unset, .unset, .unset] [(.long q1)])) _
    refine XS.lload X6.here hx rfl (hb hby d6_ge_32) rfl ?_
    exact kq
  have Z12 : n0 ≤ h0.size := Z0
  obtain ⟨_, _, ⟨T12, L12, k12, n12⟩, -, X12, ⟨Lc12, hQ12, l12, y12, z12⟩, st12⟩ := Jvm.LawKit.callS X6 hx (y := (⟨"java/lang/Math", "multiplyHigh", "(JJ)J"⟩ : MethodName)) hown (mvT hZ (hw _ (List.mem_of_getElem? (i := 32) rfl))) (mvT hZ (hw _ (List.mem_of_getElem? (i := 33) rfl))) (mvT hZ (hw _ (List.mem_of_getElem? (i := 24) rfl))) (mvT hZ (hw _ (List.mem_of_getElem? (i := 34) rfl))) (by decide) (backOf (W := 0) (rm7 l Z a0 hw [] q1  h0 n0 Z12 (hq1)) hZ (hw _ (List.mem_of_getElem? (i := 34) rfl)) (hw _ (List.mem_of_getElem? (i := 24) rfl)) (by decide) (by decide)) (g := (mkF m 34 #[.val (.long q1), .second, .val (.int p2), .val (.int (0 : Int32)), .val (.int v2), .val (.long (1 : Int64)), .second, .unset, .unset, .unset, .unset, .unset, .unset] [(.long (1 : Int64)), (.long q1)])) rfl (by rw [hml]; rfl) (argsL := [(.long q1), (.long (1 : Int64))]) (rest := []) (lenOf pd6_ge_0 rfl) rfl (by show 2 * 0 + _ ≤ _; exact Nat.le_of_eq rfl) (hb hby d6_ge_34) (fun _ _ => ⟨rfl, e6, (by decide : 0 + 0 ≤ _), (by decide : 0 + 0 ≤ _)⟩)
  dsimp only [Pt.U, Pt.locs, Pt.cells, Pt.slots] at X12 l12 y12 z12 st12 hQ12
  subst l12 y12 z12
  obtain ⟨r13, rfl, Nq12, ehq12, hq12⟩ := hQ12
  have N12 := Fr.app N0 Nq12
  have pre14 : ∀ tq, Steps p.tables e below (T12.setTop (mkF m 37 #[.val (.long q1), .second, .val (.int p2), .val (.int (0 : Int32)), .val (.int v2), .val (.long (1 : Int64)), .second, .unset, .unset, .unset, .unset, .unset, .unset] [(.long r13)])) tq → Steps p.tables e below (s₁.setTop (entryFrame m #[(.long q1), (.int p2), (.int (0 : Int32))] 13)) tq := fun tq kq => pre11 tq (st12 _ kq)
  subst hq12
  obtain ⟨v16, hv_v16, pre15⟩ : ∃ v16 : Int64, v16 = (q1 * (1 : Int64)) ∧ (∀ tq, Steps p.tables e below (T12.setTop (mkF m 45 #[.val (.long q1), .second, .val (.int p2), .val (.int (0 : Int32)), .val (.int v2), .val (.long (1 : Int64)), .second, .val (.long (0 : Int64)), .second, .val (.long v16), .second, .unset, .unset] [])) tq → Steps p.tables e below (s₁.setTop (entryFrame m #[(.long q1), (.int p2), (.int (0 : Int32))] 13)) tq) := by
    refine ⟨_, rfl, fun tq kq => pre14 tq ?_⟩
    show Steps p.tables e below (T12.setTop (mkF m 37 #[.val (.long q1), .second, .val (.int p2), .val (.int (0 : Int32)), .val (.int v2), .val (.long (1 : Int64)), .second, .unset, .unset, .unset, .unset, .unset, .unset] [(.long (0 : Int64))])) _
    refine XS.lstore X12.here hx rfl (hb hby d6_ge_37) rfl (l' := #[.val (.long q1), .second, .val (.int p2), .val (.int (0 : Int32)), .val (.int v2), .val (.long (1 : Int64)), .second, .val (.long (0 : Int64)), .second, .unset, .unset, .unset, .unset]) rfl ?_
    show Steps p.tables e below (T12.setTop (mkF m 39 #[.val (.long q1), .second, .val (.int p2), .val (.int (0 : Int32)), .val (.int v2), .val (.long (1 : Int64)), .second, .val (.long (0 : Int64)), .second, .unset, .unset, .unset, .unset] [])) _
    refine XS.lloadN X12.here hx rfl (hb hby d6_ge_39) rfl ?_
    show Steps p.tables e below (T12.setTop (mkF m 40 #[.val (.long q1), .second, .val (.int p2), .val (.int (0 : Int32)), .val (.int v2), .val (.long (1 : Int64)), .second, .val (.long (0 : Int64)), .second, .unset, .unset, .unset, .unset] [(.long q1)])) _
    refine XS.lload X12.here hx rfl (hb hby d6_ge_40) rfl ?_
    show Steps p.tables e below (T12.setTop (mkF m 42 #[.val (.long q1), .second, .val (.int p2), .val (.int (0 : Int32)), .val (.int v2), .val (.long (1 : Int64)), .second, .val (.long (0 : Int64)), .second, .unset, .unset, .unset, .unset] [(.long (1 : Int64)), (.long q1)])) _
    refine XS.lmul X12.here hx rfl (hb hby d6_ge_42) rfl ?_
    show Steps p.tables e below (T12.setTop (mkF m 43 #[.val (.long q1), .second, .val (.int p2), .val (.int (0 : Int32)), .val (.int v2), .val (.long (1 : Int64)), .second, .val (.long (0 : Int64)), .second, .unset, .unset, .unset, .unset] [(.long (q1 * (1 : Int64)))])) _
    refine XS.lstore X12.here hx rfl (hb hby d6_ge_43) rfl (l' := #[.val (.long q1), .second, .val (.int p2), .val (.int (0 : Int32)), .val (.int v2), .val (.long (1 : Int64)), .second, .val (.long (0 : Int64)), .second, .val (.long (q1 * (1 : Int64))), .second, .unset, .unset]) rfl ?_
    exact kq
  have hc47 : ¬ (v2 < (0 : Int32)) := by rw [Int32.lt_iff_toInt_lt, hp, Int32.toInt_zero]; omega
  have pre17 : ∀ tq, Steps p.tables e below (T12.setTop (mkF m 50 #[.val (.long q1), .second, .val (.int p2), .val (.int (0 : Int32)), .val (.int v2), .val (.long (1 : Int64)), .second, .val (.long (0 : Int64)), .second, .val (.long v16), .second, .unset, .unset] [])) tq → Steps p.tables e below (s₁.setTop (entryFrame m #[(.long q1), (.int p2), (.int (0 : Int32))] 13)) tq := by
    refine fun tq kq => pre15 tq ?_
    show Steps p.tables e below (T12.setTop (mkF m 45 #[.val (.long q1), .second, .val (.int p2), .val (.int (0 : Int32)), .val (.int v2), .val (.long (1 : Int64)), .second, .val (.long (0 : Int64)), .second, .val (.long v16), .second, .unset, .unset] [])) _
    refine XS.iload X12.here hx rfl (hb hby d6_ge_45) rfl ?_
    show Steps p.tables e below (T12.setTop (mkF m 47 #[.val (.long q1), .second, .val (.int p2), .val (.int (0 : Int32)), .val (.int v2), .val (.long (1 : Int64)), .second, .val (.long (0 : Int64)), .second, .val (.long v16), .second, .unset, .unset] [(.int v2)])) _
    refine XS.ifNo X12.here hx rfl (hb hby d6_ge_47) rfl ((if0 _ _).trans (flt hc47).1) ?_
    exact kq
  obtain ⟨fs, hr, hrun, hended, hW, hsame⟩ := X12.leave (v := some (.long (v16 <<< ((v2 + (1 : Int32)) &&& 0x3f).toInt64))) (fun h => by rw [Bd.returns] at h; cases h)
  refine ⟨_, _, pre17 _ ?_, hrun, hended, _, _, rfl, ?_, ⟨_, rfl⟩, hW, hsame.mono (by decide) (by decide)⟩
  · skip
    show Steps p.tables e below (T12.setTop (mkF m 50 #[.val (.long q1), .second, .val (.int p2), .val (.int (0 : Int32)), .val (.int v2), .val (.long (1 : Int64)), .second, .val (.long (0 : Int64)), .second, .val (.long v16), .second, .unset, .unset] [])) _
    refine XS.lload X12.here hx rfl (hb hby d6_ge_50) rfl ?_
    show Steps p.tables e below (T12.setTop (mkF m 52 #[.val (.long q1), .second, .val (.int p2), .val (.int (0 : Int32)), .val (.int v2), .val (.long (1 : Int64)), .second, .val (.long (0 : Int64)), .second, .val (.long v16), .second, .unset, .unset] [(.long v16)])) _
    refine XS.iload X12.here hx rfl (hb hby d6_ge_52) rfl ?_
    show Steps p.tables e below (T12.setTop (mkF m 54 #[.val (.long q1), .second, .val (.int p2), .val (.int (0 : Int32)), .val (.int v2), .val (.long (1 : Int64)), .second, .val (.long (0 : Int64)), .second, .val (.long v16), .second, .unset, .unset] [(.int v2), (.long v16)])) _
    refine XS.iconst X12.here hx rfl (hb hby d6_ge_54) ?_
    show Steps p.tables e below (T12.setTop (mkF m 55 #[.val (.long q1), .second, .val (.int p2), .val (.int (0 : Int32)), .val (.int v2), .val (.long (1 : Int64)), .second, .val (.long (0 : Int64)), .second, .val (.long v16), .second, .unset, .unset] [(.int (1 : Int32)), (.int v2), (.long v16)])) _
    refine XS.iadd X12.here hx rfl (hb hby d6_ge_55) rfl ?_
    show Steps p.tables e below (T12.setTop (mkF m 56 #[.val (.long q1), .second, .val (.int p2), .val (.int (0 : Int32)), .val (.int v2), .val (.long (1 : Int64)), .second, .val (.long (0 : Int64)), .second, .val (.long v16), .second, .unset, .unset] [(.int (v2 + (1 : Int32))), (.long v16)])) _
    refine XS.lshl X12.here hx rfl (hb hby d6_ge_56) rfl ?_
    show Steps p.tables e below (T12.setTop (mkF m 57 #[.val (.long q1), .second, .val (.int p2), .val (.int (0 : Int32)), .val (.int v2), .val (.long (1 : Int64)), .second, .val (.long (0 : Int64)), .second, .val (.long v16), .second, .unset, .unset] [(.long (v16 <<< ((v2 + (1 : Int32)) &&& 0x3f).toInt64))])) _
    exact X12.lreturnOut hx Bd.returns (hb hby d6_ge_57) hr
  · show Q6_ge Z q1 p2 sF kF sh h0 n0 _ T12.heap _
    rw [ehq12]
    refine ⟨(v16 <<< ((v2 + (1 : Int32)) &&& 0x3f).toInt64), rfl, N12, rfl, ?_⟩
    exact own_shg hq1.1 hq1.2 hp hsh.2 hv_v16 rfl
/-! body 1 -/
theorem d1_0 : decode prog_103_method_1_code 0 = .ok (.aload_n 0, 1) := by decide +kernel
theorem d1_1 : decode prog_103_method_1_code 1 = .ok (.invokespecial 3, 3) := by decide +kernel
theorem d1_4 : decode prog_103_method_1_code 4 = .ok (.dload_n 1, 1) := by decide +kernel
theorem d1_5 : decode prog_103_method_1_code 5 = .ok (.invokestatic 9, 3) := by decide +kernel
theorem d1_8 : decode prog_103_method_1_code 8 = .ok (.lstore 4, 2) := by decide +kernel
theorem d1_10 : decode prog_103_method_1_code 10 = .ok (.dload_n 1, 1) := by decide +kernel
theorem d1_11 : decode prog_103_method_1_code 11 = .ok (.invokestatic 13, 3) := by decide +kernel
theorem d1_14 : decode prog_103_method_1_code 14 = .ok (.istore 6, 2) := by decide +kernel
theorem d1_16 : decode prog_103_method_1_code 16 = .ok (.aload_n 0, 1) := by decide +kernel
theorem d1_17 : decode prog_103_method_1_code 17 = .ok (.lload 4, 2) := by decide +kernel
theorem d1_19 : decode prog_103_method_1_code 19 = .ok (.ldc2_w 17, 3) := by decide +kernel
theorem d1_22 : decode prog_103_method_1_code 22 = .ok (.lcmp, 1) := by decide +kernel
theorem d1_23 : decode prog_103_method_1_code 23 = .ok (.ifCond .ne 30, 3) := by decide +kernel
theorem d1_26 : decode prog_103_method_1_code 26 = .ok (.iload 6, 2) := by decide +kernel
theorem d1_28 : decode prog_103_method_1_code 28 = .ok (.sipush (-1074), 3) := by decide +kernel
theorem d1_31 : decode prog_103_method_1_code 31 = .ok (.if_icmp .le 22, 3) := by decide +kernel
theorem d1_34 : decode prog_103_method_1_code 34 = .ok (.ldc2_w 19, 3) := by decide +kernel
theorem d1_37 : decode prog_103_method_1_code 37 = .ok (.lload 4, 2) := by decide +kernel
theorem d1_39 : decode prog_103_method_1_code 39 = .ok (.lmul, 1) := by decide +kernel
theorem d1_40 : decode prog_103_method_1_code 40 = .ok (.lconst 1, 1) := by decide +kernel
theorem d1_41 : decode prog_103_method_1_code 41 = .ok (.lsub, 1) := by decide +kernel
theorem d1_42 : decode prog_103_method_1_code 42 = .ok (.iload 6, 2) := by decide +kernel
theorem d1_44 : decode prog_103_method_1_code 44 = .ok (.iconst 2, 1) := by decide +kernel
theorem d1_45 : decode prog_103_method_1_code 45 = .ok (.isub, 1) := by decide +kernel
theorem d1_46 : decode prog_103_method_1_code 46 = .ok (.iload_n 3, 1) := by decide +kernel
theorem d1_47 : decode prog_103_method_1_code 47 = .ok (.invokestatic 21, 3) := by decide +kernel
theorem d1_50 : decode prog_103_method_1_code 50 = .ok (.goto 19, 3) := by decide +kernel
theorem d1_53 : decode prog_103_method_1_code 53 = .ok (.ldc2_w 25, 3) := by decide +kernel
theorem d1_56 : decode prog_103_method_1_code 56 = .ok (.lload 4, 2) := by decide +kernel
theorem d1_58 : decode prog_103_method_1_code 58 = .ok (.lmul, 1) := by decide +kernel
theorem d1_59 : decode prog_103_method_1_code 59 = .ok (.lconst 1, 1) := by decide +kernel
theorem d1_60 : decode prog_103_method_1_code 60 = .ok (.lsub, 1) := by decide +kernel
theorem d1_61 : decode prog_103_method_1_code 61 = .ok (.iload 6, 2) := by decide +kernel
theorem d1_63 : decode prog_103_method_1_code 63 = .ok (.iconst 1, 1) := by decide +kernel
theorem d1_64 : decode prog_103_method_1_code 64 = .ok (.isub, 1) := by decide +kernel
theorem d1_65 : decode prog_103_method_1_code 65 = .ok (.iload_n 3, 1) := by decide +kernel
theorem d1_66 : decode prog_103_method_1_code 66 = .ok (.invokestatic 21, 3) := by decide +kernel
theorem d1_69 : decode prog_103_method_1_code 69 = .ok (.putfield 27, 3) := by decide +kernel
theorem d1_72 : decode prog_103_method_1_code 72 = .ok (.aload_n 0, 1) := by decide +kernel
theorem d1_73 : decode prog_103_method_1_code 73 = .ok (.ldc2_w 25, 3) := by decide +kernel
theorem d1_76 : decode prog_103_method_1_code 76 = .ok (.lload 4, 2) := by decide +kernel
theorem d1_78 : decode prog_103_method_1_code 78 = .ok (.lmul, 1) := by decide +kernel
theorem d1_79 : decode prog_103_method_1_code 79 = .ok (.lconst 1, 1) := by decide +kernel
theorem d1_80 : decode prog_103_method_1_code 80 = .ok (.ladd, 1) := by decide +kernel
theorem d1_81 : decode prog_103_method_1_code 81 = .ok (.iload 6, 2) := by decide +kernel
theorem d1_83 : decode prog_103_method_1_code 83 = .ok (.iconst 1, 1) := by decide +kernel
theorem d1_84 : decode prog_103_method_1_code 84 = .ok (.isub, 1) := by decide +kernel
theorem d1_85 : decode prog_103_method_1_code 85 = .ok (.iload_n 3, 1) := by decide +kernel
theorem d1_86 : decode prog_103_method_1_code 86 = .ok (.invokestatic 21, 3) := by decide +kernel
theorem d1_89 : decode prog_103_method_1_code 89 = .ok (.putfield 31, 3) := by decide +kernel
theorem d1_92 : decode prog_103_method_1_code 92 = .ok (.aload_n 0, 1) := by decide +kernel
theorem d1_93 : decode prog_103_method_1_code 93 = .ok (.lload 4, 2) := by decide +kernel
theorem d1_95 : decode prog_103_method_1_code 95 = .ok (.lconst 1, 1) := by decide +kernel
theorem d1_96 : decode prog_103_method_1_code 96 = .ok (.land, 1) := by decide +kernel
theorem d1_97 : decode prog_103_method_1_code 97 = .ok (.lconst 0, 1) := by decide +kernel
theorem d1_98 : decode prog_103_method_1_code 98 = .ok (.lcmp, 1) := by decide +kernel
theorem d1_99 : decode prog_103_method_1_code 99 = .ok (.ifCond .ne 7, 3) := by decide +kernel
theorem d1_102 : decode prog_103_method_1_code 102 = .ok (.iconst 1, 1) := by decide +kernel
theorem d1_103 : decode prog_103_method_1_code 103 = .ok (.goto 4, 3) := by decide +kernel
theorem d1_106 : decode prog_103_method_1_code 106 = .ok (.iconst 0, 1) := by decide +kernel
theorem d1_107 : decode prog_103_method_1_code 107 = .ok (.putfield 34, 3) := by decide +kernel
theorem d1_110 : decode prog_103_method_1_code 110 = .ok (.return_, 1) := by decide +kernel
theorem pn_1 : plainName "com/example/partwise/partwise/storage/DecimalRange" = true := by first | (simp [plainName, overriddenIn]; done) | decide +kernel
theorem pd1_0 : parseMethodDescriptor "(D)J" = some ⟨[.double], some .long⟩ := by decide +kernel
theorem pd1_1 : parseMethodDescriptor "(D)I" = some ⟨[.double], some .int⟩ := by decide +kernel
theorem pd1_2 : parseMethodDescriptor "(JII)J" = some ⟨[.long, .int, .int], some .long⟩ := by decide +kernel
theorem ef_1 (m : MethodId) (a1 : Addr) (d2 : UInt64) : entryFrame m #[(.ref a1), (.double d2), (.int (0 : Int32))] 7 = mkF m 0 #[.val (.ref a1), .val (.double d2), .second, .val (.int (0 : Int32)), .unset, .unset, .unset] [] := by first | (simp [entryFrame, mkF, argsToLocals, Value.category]; done) | rfl
def Q1 (Z : State) (a1 : Addr) (d2 : UInt64) (mm : Nat) (ee : Nat) (sF : Addr) (kF : ClassId) (h0 : Heap) (n0 : Nat) (v : Option Value) (h : Heap) (L : List Loc) : Prop := ∃ tb : Int64, ∃ ta : Int64, ∃ hwi : Int32, v = none ∧ Fr n0 L ∧ Keep h0 h [a1] ∧ Fld Z h a1 "com/example/partwise/partwise/storage/DecimalRange" "twiceBelow" "J" (.long tb) ∧ Fld Z h a1 "com/example/partwise/partwise/storage/DecimalRange" "twiceAbove" "J" (.long ta) ∧ Fld Z h a1 "com/example/partwise/partwise/storage/DecimalRange" "halfwayIncluded" "Z" (.int hwi) ∧ (((mm = 4503599627370496 ∧ ((ee = 0 ∧ tb.toInt = 2 * mm - 1) ∨ (1 ≤ ee ∧ tb.toInt = (4 * mm - 1) * 2 ^ (ee - 1)))) ∨ (mm ≠ 4503599627370496 ∧ tb.toInt = (2 * mm - 1) * 2 ^ ee)) ∧ ta.toInt = (2 * mm + 1) * 2 ^ ee ∧ ((hwi.toInt = 1 ∧ mm % 2 = 0) ∨ (hwi.toInt = 0 ∧ mm % 2 = 1)))
set_option maxRecDepth 65536 in
set_option maxHeartbeats 40000000 in
theorem rm1 (l : Launch) (Z : State) (a0 : Array Value) (hw : ∀ d ∈ tables_1, d.before a0 Z = true) (ws : List Jvm.Cond) (a1 : Addr) (d2 : UInt64) (mm : Nat) (ee : Nat) (sF : Addr) (kF : ClassId) (h0 : Heap) (n0 : Nat) (Z0 : n0 ≤ h0.size) (E_a1 : Exa Z h0 a1 "com/example/partwise/partwise/storage/DecimalRange") (F_twiceBelow_a1 : Fld Z h0 a1 "com/example/partwise/partwise/storage/DecimalRange" "twiceBelow" "J" (.long (0 : Int64))) (F_twiceAbove_a1 : Fld Z h0 a1 "com/example/partwise/partwise/storage/DecimalRange" "twiceAbove" "J" (.long (0 : Int64))) (F_halfwayIncluded_a1 : Fld Z h0 a1 "com/example/partwise/partwise/storage/DecimalRange" "halfwayIncluded" "Z" (.int (0 : Int32))) (g_a1 : n0 ≤ a1) (hbt : d2.toNat = (ee + 1075) * 4503599627370496 + (mm - 4503599627370496) ∧ 4503599627370496 ≤ mm ∧ mm < 9007199254740992 ∧ ee ≤ 7) (S_FIVES : Sta Z h0 "com/example/partwise/partwise/storage/DecimalRange" "FIVES" "[J" (.ref sF)) (V_sF : Arv Z h0 sF kF .long (28 : Int32) [(.long (1 : Int64)), (.long (5 : Int64)), (.long (25 : Int64)), (.long (125 : Int64)), (.long (625 : Int64)), (.long (3125 : Int64)), (.long (15625 : Int64)), (.long (78125 : Int64)), (.long (390625 : Int64)), (.long (1953125 : Int64)), (.long (9765625 : Int64)), (.long (48828125 : Int64)), (.long (244140625 : Int64)), (.long (1220703125 : Int64)), (.long (6103515625 : Int64)), (.long (30517578125 : Int64)), (.long (152587890625 : Int64)), (.long (762939453125 : Int64)), (.long (3814697265625 : Int64)), (.long (19073486328125 : Int64)), (.long (95367431640625 : Int64)), (.long (476837158203125 : Int64)), (.long (2384185791015625 : Int64)), (.long (11920928955078125 : Int64)), (.long (59604644775390625 : Int64)), (.long (298023223876953125 : Int64)), (.long (1490116119384765625 : Int64)), (.long (7450580596923828125 : Int64))] (.long (0 : Int64))) (ne_a1_sF : a1 ≠ sF) :
    MetFree l (⟨"com/example/partwise/partwise/storage/DecimalRange", "<init>", "(DI)V"⟩ : MethodName) (head1 (Jvm.Cond.code (⟨"com/example/partwise/partwise/storage/DecimalRange", "<init>", "(DI)V"⟩ : MethodName) prog_103_method_1_code 7 none :: ws) ({ frames := 2, cells := 0, slots := 0, locals := 56 } : Room)) (fun a U => a = #[(.ref a1), (.double d2), (.int (0 : Int32))] ∧ Z.Warmed39 U.vm ∧ U.heap = h0) (fun _ _ _ _ _ => True) (fun _ U o U' => ∃ v L, o = .returned v ∧ Q1 Z a1 d2 mm ee sF kF h0 n0 v U'.heap L ∧ FrameEnd U o U' L ({ frames := 2, cells := 0, slots := 0, locals := 56 } : Room).cells ({ frames := 2, cells := 0, slots := 0, locals := 56 } : Room).slots) := by
  refine MetFree.of_bodySF (plainFor_of_name pn_1) hisR ?_
  intro p e s m args below meth c s₁ Bd hml0 hP hK
  obtain ⟨rfl, hZ, hh⟩ := hP
  have hx := Bd.exec
  have hby := Bd.bytes
  have hml : c.maxLocals = 7 := hml0
  have hown : s.vm.findClass "com/example/partwise/partwise/storage/DecimalRange" = some m.cls := findClass_of_methodNamed Bd.named
  have hnm := (name_of_methodNamed Bd.named Bd.method).1
  have X0 : Stand p l e ({ frames := 2, cells := 0, slots := 0, locals := 56 } : Room) s m #[(.ref a1), (.double d2), (.int (0 : Int32))] below meth c s₁ [] 0 0 := Stand.of_body Bd
  have e0 : s₁.heap = h0 := by rw [← hh, Bd.state]; rfl
  have N0 := Fr.nil n0
  have pre0 : ∀ tq, Steps p.tables e below (s₁.setTop (mkF m 0 #[.val (.ref a1), .val (.double d2), .second, .val (.int (0 : Int32)), .unset, .unset, .unset] [])) tq → Steps p.tables e below (s₁.setTop (entryFrame m #[(.ref a1), (.double d2), (.int (0 : Int32))] 7)) tq := fun tq kq => castTop (ef_1 m a1 d2) kq
  have pre1 : ∀ tq, Steps p.tables e below (s₁.setTop (mkF m 1 #[.val (.ref a1), .val (.double d2), .second, .val (.int (0 : Int32)), .unset, .unset, .unset] [(.ref a1)])) tq → Steps p.tables e below (s₁.setTop (entryFrame m #[(.ref a1), (.double d2), (.int (0 : Int32))] 7)) tq := by
    refine fun tq kq => pre0 tq ?_
    show Steps p.tables e below (s₁.setTop (mkF m 0 #[.val (.ref a1), .val (.double d2), .second, .val (.int (0 : Int32)), .unset, .unset, .unset] [])) _
    refine XS.aloadN X0.here hx rfl (hb hby d1_0) rfl rfl ?_
    exact kq
  obtain ⟨T2, X2, e2, st2⟩ := initO X0 hx hZ hown (hw _ (List.mem_of_getElem? (i := 7) rfl)) (hw _ (List.mem_of_getElem? (i := 8) rfl)) (hw _ (List.mem_of_getElem? (i := 9) rfl)) e0 (g := (mkF m 1 #[.val (.ref a1), .val (.double d2), .second, .val (.int (0 : Int32)), .unset, .unset, .unset] [(.ref a1)])) rfl (by rw [hml]; rfl) rfl (hb hby d1_1) (by decide) (W := 0) (by show 2 * 0 + _ ≤ _; exact Nat.le_of_eq rfl) (by decide)
  have pre3 : ∀ tq, Steps p.tables e below (T2.setTop (mkF m 4 #[.val (.ref a1), .val (.double d2), .second, .val (.int (0 : Int32)), .unset, .unset, .unset] [])) tq → Steps p.tables e below (s₁.setTop (entryFrame m #[(.ref a1), (.double d2), (.int (0 : Int32))] 7)) tq := fun tq kq => pre1 tq (st2 _ kq)
  have pre4 : ∀ tq, Steps p.tables e below (T2.setTop (mkF m 5 #[.val (.ref a1), .val (.double d2), .second, .val (.int (0 : Int32)), .unset, .unset, .unset] [(.double d2)])) tq → Steps p.tables e below (s₁.setTop (entryFrame m #[(.ref a1), (.double d2), (.int (0 : Int32))] 7)) tq := by
    refine fun tq kq => pre3 tq ?_
    show Steps p.tables e below (T2.setTop (mkF m 4 #[.val (.ref a1), .val (.double d2), .second, .val (.int (0 : Int32)), .unset, .unset, .unset] [])) _
    refine XS.dloadN X2.here hx rfl (hb hby d1_4) rfl ?_
    exact kq
  have Z5 : n0 ≤ h0.size := Z0
  obtain ⟨_, _, ⟨T5, L5, k5, n5⟩, -, X5, ⟨Lc5, hQ5, l5, y5, z5⟩, st5⟩ := Jvm.LawKit.callS X2 hx (y := (⟨"com/example/partwise/partwise/storage/DecimalRange", "significand", "(D)J"⟩ : MethodName)) hown (mvT hZ (hw _ (List.mem_of_getElem? (i := 10) rfl))) (mvT hZ (hw _ (List.mem_of_getElem? (i := 11) rfl))) (mvT hZ (hw _ (List.mem_of_getElem? (i := 3) rfl))) (mvT hZ (hw _ (List.mem_of_getElem? (i := 12) rfl))) (by decide) (backOf (W := 0) (rm3 l Z a0 hw [] d2 mm ee h0 n0 Z5 (hbt)) hZ (hw _ (List.mem_of_getElem? (i := 12) rfl)) (hw _ (List.mem_of_getElem? (i := 3) rfl)) (by decide) (by decide)) (g := (mkF m 5 #[.val (.ref a1), .val (.double d2), .second, .val (.int (0 : Int32)), .unset, .unset, .unset] [(.double d2)])) rfl (by rw [hml]; rfl) (argsL := [(.double d2)]) (rest := []) (lenOf pd1_0 rfl) rfl (by show 2 * 0 + _ ≤ _; exact Nat.le_of_eq rfl) (hb hby d1_5) (fun _ _ => ⟨rfl, e2, (by decide : 0 + 0 ≤ _), (by decide : 0 + 0 ≤ _)⟩)
  dsimp only [Pt.U, Pt.locs, Pt.cells, Pt.slots] at X5 l5 y5 z5 st5 hQ5
  subst l5 y5 z5
  obtain ⟨r6, rfl, Nq5, ehq5, hq5⟩ := hQ5
  have N5 := Fr.app N0 Nq5
  have pre7 : ∀ tq, Steps p.tables e below (T5.setTop (mkF m 8 #[.val (.ref a1), .val (.double d2), .second, .val (.int (0 : Int32)), .unset, .unset, .unset] [(.long r6)])) tq → Steps p.tables e below (s₁.setTop (entryFrame m #[(.ref a1), (.double d2), (.int (0 : Int32))] 7)) tq := fun tq kq => pre4 tq (st5 _ kq)
  have pre8 : ∀ tq, Steps p.tables e below (T5.setTop (mkF m 11 #[.val (.ref a1), .val (.double d2), .second, .val (.int (0 : Int32)), .val (.long r6), .second, .unset] [(.double d2)])) tq → Steps p.tables e below (s₁.setTop (entryFrame m #[(.ref a1), (.double d2), (.int (0 : Int32))] 7)) tq := by
    refine fun tq kq => pre7 tq ?_
    show Steps p.tables e below (T5.setTop (mkF m 8 #[.val (.ref a1), .val (.double d2), .second, .val (.int (0 : Int32)), .unset, .unset, .unset] [(.long r6)])) _
    refine XS.lstore X5.here hx rfl (hb hby d1_8) rfl (l' := #[.val (.ref a1), .val (.double d2), .second, .val (.int (0 : Int32)), .val (.long r6), .second, .unset]) rfl ?_
    show Steps p.tables e below (T5.setTop (mkF m 10 #[.val (.ref a1), .val (.double d2), .second, .val (.int (0 : Int32)), .val (.long r6), .second, .unset] [])) _
    refine XS.dloadN X5.here hx rfl (hb hby d1_10) rfl ?_
    exact kq
  have Z9 : n0 ≤ h0.size := Z0
  obtain ⟨_, _, ⟨T9, L9, k9, n9⟩, -, X9, ⟨Lc9, hQ9, l9, y9, z9⟩, st9⟩ := Jvm.LawKit.callS X5 hx (y := (⟨"com/example/partwise/partwise/storage/DecimalRange", "twos", "(D)I"⟩ : MethodName)) hown (mvT hZ (hw _ (List.mem_of_getElem? (i := 19) rfl))) (mvT hZ (hw _ (List.mem_of_getElem? (i := 20) rfl))) (mvT hZ (hw _ (List.mem_of_getElem? (i := 3) rfl))) (mvT hZ (hw _ (List.mem_of_getElem? (i := 21) rfl))) (by decide) (backOf (W := 0) (rm4 l Z a0 hw [] d2 mm ee h0 n0 Z9 (hbt)) hZ (hw _ (List.mem_of_getElem? (i := 21) rfl)) (hw _ (List.mem_of_getElem? (i := 3) rfl)) (by decide) (by decide)) (g := (mkF m 11 #[.val (.ref a1), .val (.double d2), .second, .val (.int (0 : Int32)), .val (.long r6), .second, .unset] [(.double d2)])) rfl (by rw [hml]; rfl) (argsL := [(.double d2)]) (rest := []) (lenOf pd1_1 rfl) rfl (by show 2 * 0 + _ ≤ _; exact Nat.le_of_eq rfl) (hb hby d1_11) (fun _ _ => ⟨rfl, ehq5, (by decide : (0 + 0) + 0 ≤ _), (by decide : (0 + 0) + 0 ≤ _)⟩)
  dsimp only [Pt.U, Pt.locs, Pt.cells, Pt.slots] at X9 l9 y9 z9 st9 hQ9
  subst l9 y9 z9
  obtain ⟨r10, rfl, Nq9, ehq9, hq9⟩ := hQ9
  have N9 := Fr.app N5 Nq9
  have pre11 : ∀ tq, Steps p.tables e below (T9.setTop (mkF m 14 #[.val (.ref a1), .val (.double d2), .second, .val (.int (0 : Int32)), .val (.long r6), .second, .unset] [(.int r10)])) tq → Steps p.tables e below (s₁.setTop (entryFrame m #[(.ref a1), (.double d2), (.int (0 : Int32))] 7)) tq := fun tq kq => pre8 tq (st9 _ kq)
  have hcs14 : r10 = (0 : Int32) ∨ r10 = (1 : Int32) ∨ 2 ≤ r10.toInt := by
    exact own_e3 hq9
  rcases hcs14 with hk | hk | hk
  · skip
    subst hk
    have pre12 : ∀ tq, Steps p.tables e below (T9.setTop (mkF m 23 #[.val (.ref a1), .val (.double d2), .second, .val (.int (0 : Int32)), .val (.long r6), .second, .val (.int (0 : Int32))] [(.int (lcmpW r6 (4503599627370496 : Int64))), (.ref a1)])) tq → Steps p.tables e below (s₁.setTop (entryFrame m #[(.ref a1), (.double d2), (.int (0 : Int32))] 7)) tq := by
      refine fun tq kq => pre11 tq ?_
      show Steps p.tables e below (T9.setTop (mkF m 14 #[.val (.ref a1), .val (.double d2), .second, .val (.int (0 : Int32)), .val (.long r6), .second, .unset] [(.int (0 : Int32))])) _
      refine XS.istore X9.here hx rfl (hb hby d1_14) rfl (l' := #[.val (.ref a1), .val (.double d2), .second, .val (.int (0 : Int32)), .val (.long r6), .second, .val (.int (0 : Int32))]) rfl ?_
      show Steps p.tables e below (T9.setTop (mkF m 16 #[.val (.ref a1), .val (.double d2), .second, .val (.int (0 : Int32)), .val (.long r6), .second, .val (.int (0 : Int32))] [])) _
      refine XS.aloadN X9.here hx rfl (hb hby d1_16) rfl rfl ?_
      show Steps p.tables e below (T9.setTop (mkF m 17 #[.val (.ref a1), .val (.double d2), .second, .val (.int (0 : Int32)), .val (.long r6), .second, .val (.int (0 : Int32))] [(.ref a1)])) _
      refine XS.lload X9.here hx rfl (hb hby d1_17) rfl ?_
      show Steps p.tables e below (T9.setTop (mkF m 19 #[.val (.ref a1), .val (.double d2), .second, .val (.int (0 : Int32)), .val (.long r6), .second, .val (.int (0 : Int32))] [(.long r6), (.ref a1)])) _
      refine X9.ldc2Long hx hown (mvT hZ (hw _ (List.mem_of_getElem? (i := 18) rfl))) (g := (mkF m 19 #[.val (.ref a1), .val (.double d2), .second, .val (.int (0 : Int32)), .val (.long r6), .second, .val (.int (0 : Int32))] [(.long r6), (.ref a1)])) rfl (hb hby d1_19) _ ?_
      show Steps p.tables e below (T9.setTop (mkF m 22 #[.val (.ref a1), .val (.double d2), .second, .val (.int (0 : Int32)), .val (.long r6), .second, .val (.int (0 : Int32))] [(.long (4503599627370496 : Int64)), (.long r6), (.ref a1)])) _
      refine XS.lcmp X9.here hx rfl (hb hby d1_22) rfl ?_
      exact kq
    by_cases hc23 : r6 = (4503599627370496 : Int64)
    · skip
      have pre13 : ∀ tq, Steps p.tables e below (T9.setTop (mkF m 26 #[.val (.ref a1), .val (.double d2), .second, .val (.int (0 : Int32)), .val (.long r6), .second, .val (.int (0 : Int32))] [(.ref a1)])) tq → Steps p.tables e below (s₁.setTop (entryFrame m #[(.ref a1), (.double d2), (.int (0 : Int32))] 7)) tq := by
        refine fun tq kq => pre12 tq ?_
        show Steps p.tables e below (T9.setTop (mkF m 23 #[.val (.ref a1), .val (.double d2), .second, .val (.int (0 : Int32)), .val (.long r6), .second, .val (.int (0 : Int32))] [(.int (lcmpW r6 (4503599627370496 : Int64))), (.ref a1)])) _
        refine XS.ifNo X9.here hx rfl (hb hby d1_23) rfl (jteq hc23).2 ?_
        exact kq
      have pre14 : ∀ tq, Steps p.tables e below (T9.setTop (mkF m 34 #[.val (.ref a1), .val (.double d2), .second, .val (.int (0 : Int32)), .val (.long r6), .second, .val (.int (0 : Int32))] [(.ref a1)])) tq → Steps p.tables e below (s₁.setTop (entryFrame m #[(.ref a1), (.double d2), (.int (0 : Int32))] 7)) tq := by
        refine fun tq kq => pre13 tq ?_
        show Steps p.tables e below (T9.setTop (mkF m 26 #[.val (.ref a1), .val (.double d2), .second, .val (.int (0 : Int32)), .val (.long r6), .second, .val (.int (0 : Int32))] [(.ref a1)])) _
        refine XS.iload X9.here hx rfl (hb hby d1_26) rfl ?_
        show Steps p.tables e below (T9.setTop (mkF m 28 #[.val (.ref a1), .val (.double d2), .second, .val (.int (0 : Int32)), .val (.long r6), .second, .val (.int (0 : Int32))] [(.int (0 : Int32)), (.ref a1)])) _
        refine XS.sipush X9.here hx rfl (hb hby d1_28) ?_
        show Steps p.tables e below (T9.setTop (mkF m 31 #[.val (.ref a1), .val (.double d2), .second, .val (.int (0 : Int32)), .val (.long r6), .second, .val (.int (0 : Int32))] [(.int (-1074 : Int32)), (.int (0 : Int32)), (.ref a1)])) _
        refine XS.icmpNo X9.here hx rfl (hb hby d1_31) rfl (tlt (by decide : (-1074 : Int32) < (0 : Int32))).2.2.2 ?_
        exact kq
      have pre15 : ∀ tq, Steps p.tables e below (T9.setTop (mkF m 47 #[.val (.ref a1), .val (.double d2), .second, .val (.int (0 : Int32)), .val (.long r6), .second, .val (.int (0 : Int32))] [(.int (0 : Int32)), (.int (-2 : Int32)), (.long (((4 : Int64) * r6) - (1 : Int64))), (.ref a1)])) tq → Steps p.tables e below (s₁.setTop (entryFrame m #[(.ref a1), (.double d2), (.int (0 : Int32))] 7)) tq := by
        refine fun tq kq => pre14 tq ?_
        show Steps p.tables e below (T9.setTop (mkF m 34 #[.val (.ref a1), .val (.double d2), .second, .val (.int (0 : Int32)), .val (.long r6), .second, .val (.int (0 : Int32))] [(.ref a1)])) _
        refine X9.ldc2Long hx hown (mvT hZ (hw _ (List.mem_of_getElem? (i := 50) rfl))) (g := (mkF m 34 #[.val (.ref a1), .val (.double d2), .second, .val (.int (0 : Int32)), .val (.long r6), .second, .val (.int (0 : Int32))] [(.ref a1)])) rfl (hb hby d1_34) _ ?_
        show Steps p.tables e below (T9.setTop (mkF m 37 #[.val (.ref a1), .val (.double d2), .second, .val (.int (0 : Int32)), .val (.long r6), .second, .val (.int (0 : Int32))] [(.long (4 : Int64)), (.ref a1)])) _
        refine XS.lload X9.here hx rfl (hb hby d1_37) rfl ?_
        show Steps p.tables e below (T9.setTop (mkF m 39 #[.val (.ref a1), .val (.double d2), .second, .val (.int (0 : Int32)), .val (.long r6), .second, .val (.int (0 : Int32))] [(.long r6), (.long (4 : Int64)), (.ref a1)])) _
        refine XS.lmul X9.here hx rfl (hb hby d1_39) rfl ?_
        show Steps p.tables e below (T9.setTop (mkF m 40 #[.val (.ref a1), .val (.double d2), .second, .val (.int (0 : Int32)), .val (.long r6), .second, .val (.int (0 : Int32))] [(.long ((4 : Int64) * r6)), (.ref a1)])) _
        refine XS.lconst X9.here hx rfl (hb hby d1_40) ?_
        show Steps p.tables e below (T9.setTop (mkF m 41 #[.val (.ref a1), .val (.double d2), .second, .val (.int (0 : Int32)), .val (.long r6), .second, .val (.int (0 : Int32))] [(.long (1 : Int64)), (.long ((4 : Int64) * r6)), (.ref a1)])) _
        refine XS.lsub X9.here hx rfl (hb hby d1_41) rfl ?_
        show Steps p.tables e below (T9.setTop (mkF m 42 #[.val (.ref a1), .val (.double d2), .second, .val (.int (0 : Int32)), .val (.long r6), .second, .val (.int (0 : Int32))] [(.long (((4 : Int64) * r6) - (1 : Int64))), (.ref a1)])) _
        refine XS.iload X9.here hx rfl (hb hby d1_42) rfl ?_
        show Steps p.tables e below (T9.setTop (mkF m 44 #[.val (.ref a1), .val (.double d2), .second, .val (.int (0 : Int32)), .val (.long r6), .second, .val (.int (0 : Int32))] [(.int (0 : Int32)), (.long (((4 : Int64) * r6) - (1 : Int64))), (.ref a1)])) _
        refine XS.iconst X9.here hx rfl (hb hby d1_44) ?_
        show Steps p.tables e below (T9.setTop (mkF m 45 #[.val (.ref a1), .val (.double d2), .second, .val (.int (0 : Int32)), .val (.long r6), .second, .val (.int (0 : Int32))] [(.int (2 : Int32)), (.int (0 : Int32)), (.long (((4 : Int64) * r6) - (1 : Int64))), (.ref a1)])) _
        refine XS.isub X9.here hx rfl (hb hby d1_45) rfl ?_
        show Steps p.tables e below (T9.setTop (mkF m 46 #[.val (.ref a1), .val (.double d2), .second, .val (.int (0 : Int32)), .val (.long r6), .second, .val (.int (0 : Int32))] [(.int (-2 : Int32)), (.long (((4 : Int64) * r6) - (1 : Int64))), (.ref a1)])) _
        refine XS.iloadN X9.here hx rfl (hb hby d1_46) rfl ?_
        exact kq
      have Z16 : n0 ≤ h0.size := Z0
      obtain ⟨_, _, ⟨T16, L16, k16, n16⟩, -, X16, ⟨Lc16, hQ16, l16, y16, z16⟩, st16⟩ := Jvm.LawKit.callS X9 hx (y := (⟨"com/example/partwise/partwise/storage/DecimalRange", "twiceUnits", "(JII)J"⟩ : MethodName)) hown (mvT hZ (hw _ (List.mem_of_getElem? (i := 27) rfl))) (mvT hZ (hw _ (List.mem_of_getElem? (i := 28) rfl))) (mvT hZ (hw _ (List.mem_of_getElem? (i := 3) rfl))) (mvT hZ (hw _ (List.mem_of_getElem? (i := 29) rfl))) (by decide) (backOf (W := 1) (rm6_0 l Z a0 hw [] (((4 : Int64) * r6) - (1 : Int64)) sF kF h0 n0 Z16 (own_r4 hq5 hbt.2.1 hbt.2.2.1) S_FIVES V_sF) hZ (hw _ (List.mem_of_getElem? (i := 29) rfl)) (hw _ (List.mem_of_getElem? (i := 3) rfl)) (by decide) (by decide)) (g := (mkF m 47 #[.val (.ref a1), .val (.double d2), .second, .val (.int (0 : Int32)), .val (.long r6), .second, .val (.int (0 : Int32))] [(.int (0 : Int32)), (.int (-2 : Int32)), (.long (((4 : Int64) * r6) - (1 : Int64))), (.ref a1)])) rfl (by rw [hml]; rfl) (argsL := [(.long (((4 : Int64) * r6) - (1 : Int64))), (.int (-2 : Int32)), (.int (0 : Int32))]) (rest := [(.ref a1)]) (lenOf pd1_2 rfl) rfl (by show 2 * 0 + _ ≤ _; exact Nat.le_of_eq rfl) (hb hby d1_47) (fun _ _ => ⟨rfl, ehq9, (by decide : ((0 + 0) + 0) + 0 ≤ _), (by decide : ((0 + 0) + 0) + 0 ≤ _)⟩)
      dsimp only [Pt.U, Pt.locs, Pt.cells, Pt.slots] at X16 l16 y16 z16 st16 hQ16
      subst l16 y16 z16
      obtain ⟨r17, rfl, Nq16, ehq16, hq16⟩ := hQ16
      have N16 := Fr.app N9 Nq16
      have pre18 : ∀ tq, Steps p.tables e below (T16.setTop (mkF m 50 #[.val (.ref a1), .val (.double d2), .second, .val (.int (0 : Int32)), .val (.long r6), .second, .val (.int (0 : Int32))] [(.long r17), (.ref a1)])) tq → Steps p.tables e below (s₁.setTop (entryFrame m #[(.ref a1), (.double d2), (.int (0 : Int32))] 7)) tq := fun tq kq => pre15 tq (st16 _ kq)
      have pre19 : ∀ tq, Steps p.tables e below (T16.setTop (mkF m 69 #[.val (.ref a1), .val (.double d2), .second, .val (.int (0 : Int32)), .val (.long r6), .second, .val (.int (0 : Int32))] [(.long r17), (.ref a1)])) tq → Steps p.tables e below (s₁.setTop (entryFrame m #[(.ref a1), (.double d2), (.int (0 : Int32))] 7)) tq := by
        refine fun tq kq => pre18 tq ?_
        show Steps p.tables e below (T16.setTop (mkF m 50 #[.val (.ref a1), .val (.double d2), .second, .val (.int (0 : Int32)), .val (.long r6), .second, .val (.int (0 : Int32))] [(.long r17), (.ref a1)])) _
        refine XS.goto X16.here hx rfl (pc0 := 50) (pc' := 69) rfl (hb hby d1_50) (by decide) (by decide) ?_
        exact kq
      obtain ⟨T20, h20, X20, e20, W20, st20⟩ := putF X16 hx hZ hown (host := "") (Or.inl (hw _ (List.mem_of_getElem? (i := 36) rfl))) Via.refl ehq16 F_twiceBelow_a1 E_a1 (Or.inr ⟨(hw _ (List.mem_of_getElem? (i := 37) rfl)), rfl, hnm⟩) (hw _ (List.mem_of_getElem? (i := 2) rfl)) (ty := .long) (by decide) rfl rfl (g := (mkF m 69 #[.val (.ref a1), .val (.double d2), .second, .val (.int (0 : Int32)), .val (.long r6), .second, .val (.int (0 : Int32))] [(.long r17), (.ref a1)])) rfl rfl (hb hby d1_69)
      have pre21 : ∀ tq, Steps p.tables e below (T20.setTop (mkF m 72 #[.val (.ref a1), .val (.double d2), .second, .val (.int (0 : Int32)), .val (.long r6), .second, .val (.int (0 : Int32))] [])) tq → Steps p.tables e below (s₁.setTop (entryFrame m #[(.ref a1), (.double d2), (.int (0 : Int32))] 7)) tq := fun tq kq => pre19 tq (st20 _ kq)
      have N20 := Fr.snoc X20 N16 g_a1
      have K20 : Keep h0 h20 [a1] := Keep.wr (Keep.refl h0 [a1]) W20 (Or.inl (List.mem_of_getElem? (i := 0) rfl))
      have f22 := E_a1.wr W20
      have f23 := F_twiceAbove_a1.other W20 (Or.inr (slot_ne (Or.inr (hw _ (List.mem_of_getElem? (i := 39) rfl))) (Or.inr (hw _ (List.mem_of_getElem? (i := 37) rfl))) (by decide) (t := .long) (t' := .long) (by decide) (by decide)))
      have f24 := F_halfwayIncluded_a1.other W20 (Or.inr (slot_ne (Or.inr (hw _ (List.mem_of_getElem? (i := 41) rfl))) (Or.inr (hw _ (List.mem_of_getElem? (i := 37) rfl))) (by decide) (t := .boolean) (t' := .long) (by decide) (by decide)))
      have f25 := S_FIVES.wr W20
      have f26 := V_sF.other W20 (Ne.symm ne_a1_sF)
      have f27 := F_twiceBelow_a1.same W20
      have pre28 : ∀ tq, Steps p.tables e below (T20.setTop (mkF m 86 #[.val (.ref a1), .val (.double d2), .second, .val (.int (0 : Int32)), .val (.long r6), .second, .val (.int (0 : Int32))] [(.int (0 : Int32)), (.int (-1 : Int32)), (.long (((2 : Int64) * r6) + (1 : Int64))), (.ref a1)])) tq → Steps p.tables e below (s₁.setTop (entryFrame m #[(.ref a1), (.double d2), (.int (0 : Int32))] 7)) tq := by
        refine fun tq kq => pre21 tq ?_
        show Steps p.tables e below (T20.setTop (mkF m 72 #[.val (.ref a1), .val (.double d2), .second, .val (.int (0 : Int32)), .val (.long r6), .second, .val (.int (0 : Int32))] [])) _
        refine XS.aloadN X20.here hx rfl (hb hby d1_72) rfl rfl ?_
        show Steps p.tables e below (T20.setTop (mkF m 73 #[.val (.ref a1), .val (.double d2), .second, .val (.int (0 : Int32)), .val (.long r6), .second, .val (.int (0 : Int32))] [(.ref a1)])) _
        refine X20.ldc2Long hx hown (mvT hZ (hw _ (List.mem_of_getElem? (i := 26) rfl))) (g := (mkF m 73 #[.val (.ref a1), .val (.double d2), .second, .val (.int (0 : Int32)), .val (.long r6), .second, .val (.int (0 : Int32))] [(.ref a1)])) rfl (hb hby d1_73) _ ?_
        show Steps p.tables e below (T20.setTop (mkF m 76 #[.val (.ref a1), .val (.double d2), .second, .val (.int (0 : Int32)), .val (.long r6), .second, .val (.int (0 : Int32))] [(.long (2 : Int64)), (.ref a1)])) _
        refine XS.lload X20.here hx rfl (hb hby d1_76) rfl ?_
        show Steps p.tables e below (T20.setTop (mkF m 78 #[.val (.ref a1), .val (.double d2), .second, .val (.int (0 : Int32)), .val (.long r6), .second, .val (.int (0 : Int32))] [(.long r6), (.long (2 : Int64)), (.ref a1)])) _
        refine XS.lmul X20.here hx rfl (hb hby d1_78) rfl ?_
        show Steps p.tables e below (T20.setTop (mkF m 79 #[.val (.ref a1), .val (.double d2), .second, .val (.int (0 : Int32)), .val (.long r6), .second, .val (.int (0 : Int32))] [(.long ((2 : Int64) * r6)), (.ref a1)])) _
        refine XS.lconst X20.here hx rfl (hb hby d1_79) ?_
        show Steps p.tables e below (T20.setTop (mkF m 80 #[.val (.ref a1), .val (.double d2), .second, .val (.int (0 : Int32)), .val (.long r6), .second, .val (.int (0 : Int32))] [(.long (1 : Int64)), (.long ((2 : Int64) * r6)), (.ref a1)])) _
        refine XS.ladd X20.here hx rfl (hb hby d1_80) rfl ?_
        show Steps p.tables e below (T20.setTop (mkF m 81 #[.val (.ref a1), .val (.double d2), .second, .val (.int (0 : Int32)), .val (.long r6), .second, .val (.int (0 : Int32))] [(.long (((2 : Int64) * r6) + (1 : Int64))), (.ref a1)])) _
        refine XS.iload X20.here hx rfl (hb hby d1_81) rfl ?_
        show Steps p.tables e below (T20.setTop (mkF m 83 #[.val (.ref a1), .val (.double d2), .second, .val (.int (0 : Int32)), .val (.long r6), .second, .val (.int (0 : Int32))] [(.int (0 : Int32)), (.long (((2 : Int64) * r6) + (1 : Int64))), (.ref a1)])) _
        refine XS.iconst X20.here hx rfl (hb hby d1_83) ?_
        show Steps p.tables e below (T20.setTop (mkF m 84 #[.val (.ref a1), .val (.double d2), .second, .val (.int (0 : Int32)), .val (.long r6), .second, .val (.int (0 : Int32))] [(.int (1 : Int32)), (.int (0 : Int32)), (.long (((2 : Int64) * r6) + (1 : Int64))), (.ref a1)])) _
        refine XS.isub X20.here hx rfl (hb hby d1_84) rfl ?_
        show Steps p.tables e below (T20.setTop (mkF m 85 #[.val (.ref a1), .val (.double d2), .second, .val (.int (0 : Int32)), .val (.long r6), .second, .val (.int (0 : Int32))] [(.int (-1 : Int32)), (.long (((2 : Int64) * r6) + (1 : Int64))), (.ref a1)])) _
        refine XS.iloadN X20.here hx rfl (hb hby d1_85) rfl ?_
        exact kq
      have Z29 : n0 ≤ h20.size := (Nat.le_trans Z0 (Keep.of_wr W20).1)
      obtain ⟨_, _, ⟨T29, L29, k29, n29⟩, -, X29, ⟨Lc29, hQ29, l29, y29, z29⟩, st29⟩ := Jvm.LawKit.callS X20 hx (y := (⟨"com/example/partwise/partwise/storage/DecimalRange", "twiceUnits", "(JII)J"⟩ : MethodName)) hown (mvT hZ (hw _ (List.mem_of_getElem? (i := 27) rfl))) (mvT hZ (hw _ (List.mem_of_getElem? (i := 28) rfl))) (mvT hZ (hw _ (List.mem_of_getElem? (i := 3) rfl))) (mvT hZ (hw _ (List.mem_of_getElem? (i := 29) rfl))) (by decide) (backOf (W := 1) (rm6_1 l Z a0 hw [] (((2 : Int64) * r6) + (1 : Int64)) sF kF h20 n0 Z29 (own_r2p hq5 hbt.2.1 hbt.2.2.1) f25 f26) hZ (hw _ (List.mem_of_getElem? (i := 29) rfl)) (hw _ (List.mem_of_getElem? (i := 3) rfl)) (by decide) (by decide)) (g := (mkF m 86 #[.val (.ref a1), .val (.double d2), .second, .val (.int (0 : Int32)), .val (.long r6), .second, .val (.int (0 : Int32))] [(.int (0 : Int32)), (.int (-1 : Int32)), (.long (((2 : Int64) * r6) + (1 : Int64))), (.ref a1)])) rfl (by rw [hml]; rfl) (argsL := [(.long (((2 : Int64) * r6) + (1 : Int64))), (.int (-1 : Int32)), (.int (0 : Int32))]) (rest := [(.ref a1)]) (lenOf pd1_2 rfl) rfl (by show 2 * 0 + _ ≤ _; exact Nat.le_of_eq rfl) (hb hby d1_86) (fun _ _ => ⟨rfl, e20, (by decide : (((0 + 0) + 0) + 0) + 0 ≤ _), (by decide : (((0 + 0) + 0) + 0) + 0 ≤ _)⟩)
      dsimp only [Pt.U, Pt.locs, Pt.cells, Pt.slots] at X29 l29 y29 z29 st29 hQ29
      subst l29 y29 z29
      obtain ⟨r30, rfl, Nq29, ehq29, hq29⟩ := hQ29
      have N29 := Fr.app N20 Nq29
      have pre31 : ∀ tq, Steps p.tables e below (T29.setTop (mkF m 89 #[.val (.ref a1), .val (.double d2), .second, .val (.int (0 : Int32)), .val (.long r6), .second, .val (.int (0 : Int32))] [(.long r30), (.ref a1)])) tq → Steps p.tables e below (s₁.setTop (entryFrame m #[(.ref a1), (.double d2), (.int (0 : Int32))] 7)) tq := fun tq kq => pre28 tq (st29 _ kq)
      obtain ⟨T32, h32, X32, e32, W32, st32⟩ := putF X29 hx hZ hown (host := "") (Or.inl (hw _ (List.mem_of_getElem? (i := 38) rfl))) Via.refl ehq29 f23 f22 (Or.inr ⟨(hw _ (List.mem_of_getElem? (i := 39) rfl)), rfl, hnm⟩) (hw _ (List.mem_of_getElem? (i := 2) rfl)) (ty := .long) (by decide) rfl rfl (g := (mkF m 89 #[.val (.ref a1), .val (.double d2), .second, .val (.int (0 : Int32)), .val (.long r6), .second, .val (.int (0 : Int32))] [(.long r30), (.ref a1)])) rfl rfl (hb hby d1_89)
      have pre33 : ∀ tq, Steps p.tables e below (T32.setTop (mkF m 92 #[.val (.ref a1), .val (.double d2), .second, .val (.int (0 : Int32)), .val (.long r6), .second, .val (.int (0 : Int32))] [])) tq → Steps p.tables e below (s₁.setTop (entryFrame m #[(.ref a1), (.double d2), (.int (0 : Int32))] 7)) tq := fun tq kq => pre31 tq (st32 _ kq)
      have N32 := Fr.snoc X32 N29 g_a1
      have K32 : Keep h0 h32 [a1] := Keep.wr K20 W32 (Or.inl (List.mem_of_getElem? (i := 0) rfl))
      have f34 := f22.wr W32
      have f35 := f24.other W32 (Or.inr (slot_ne (Or.inr (hw _ (List.mem_of_getElem? (i := 41) rfl))) (Or.inr (hw _ (List.mem_of_getElem? (i := 39) rfl))) (by decide) (t := .boolean) (t' := .long) (by decide) (by decide)))
      have f36 := f25.wr W32
      have f37 := f26.other W32 (Ne.symm ne_a1_sF)
      have f38 := f27.other W32 (Or.inr (slot_ne (Or.inr (hw _ (List.mem_of_getElem? (i := 37) rfl))) (Or.inr (hw _ (List.mem_of_getElem? (i := 39) rfl))) (by decide) (t := .long) (t' := .long) (by decide) (by decide)))
      have f39 := f23.same W32
      obtain ⟨v40, hj41, pre41⟩ : ∃ v40 : Int32, (((r6 &&& (1 : Int64)) = (0 : Int64) ∧ v40 = (1 : Int32)) ∨ (¬ ((r6 &&& (1 : Int64)) = (0 : Int64)) ∧ v40 = (0 : Int32))) ∧ (∀ tq, Steps p.tables e below (T32.setTop (mkF m 107 #[.val (.ref a1), .val (.double d2), .second, .val (.int (0 : Int32)), .val (.long r6), .second, .val (.int (0 : Int32))] [(.int v40), (.ref a1)])) tq → Steps p.tables e below (s₁.setTop (entryFrame m #[(.ref a1), (.double d2), (.int (0 : Int32))] 7)) tq) := by
        by_cases hb0_99 : (r6 &&& (1 : Int64)) = (0 : Int64)
        · skip
          refine ⟨(1 : Int32), Or.inl (⟨hb0_99, rfl⟩), fun tq kq => pre33 tq ?_⟩
          show Steps p.tables e below (T32.setTop (mkF m 92 #[.val (.ref a1), .val (.double d2), .second, .val (.int (0 : Int32)), .val (.long r6), .second, .val (.int (0 : Int32))] [])) _
          refine XS.aloadN X32.here hx rfl (hb hby d1_92) rfl rfl ?_
          show Steps p.tables e below (T32.setTop (mkF m 93 #[.val (.ref a1), .val (.double d2), .second, .val (.int (0 : Int32)), .val (.long r6), .second, .val (.int (0 : Int32))] [(.ref a1)])) _
          refine XS.lload X32.here hx rfl (hb hby d1_93) rfl ?_
          show Steps p.tables e below (T32.setTop (mkF m 95 #[.val (.ref a1), .val (.double d2), .second, .val (.int (0 : Int32)), .val (.long r6), .second, .val (.int (0 : Int32))] [(.long r6), (.ref a1)])) _
          refine XS.lconst X32.here hx rfl (hb hby d1_95) ?_
          show Steps p.tables e below (T32.setTop (mkF m 96 #[.val (.ref a1), .val (.double d2), .second, .val (.int (0 : Int32)), .val (.long r6), .second, .val (.int (0 : Int32))] [(.long (1 : Int64)), (.long r6), (.ref a1)])) _
          refine XS.land X32.here hx rfl (hb hby d1_96) rfl ?_
          show Steps p.tables e below (T32.setTop (mkF m 97 #[.val (.ref a1), .val (.double d2), .second, .val (.int (0 : Int32)), .val (.long r6), .second, .val (.int (0 : Int32))] [(.long (r6 &&& (1 : Int64))), (.ref a1)])) _
          refine XS.lconst X32.here hx rfl (hb hby d1_97) ?_
          show Steps p.tables e below (T32.setTop (mkF m 98 #[.val (.ref a1), .val (.double d2), .second, .val (.int (0 : Int32)), .val (.long r6), .second, .val (.int (0 : Int32))] [(.long (0 : Int64)), (.long (r6 &&& (1 : Int64))), (.ref a1)])) _
          refine XS.lcmp X32.here hx rfl (hb hby d1_98) rfl ?_
          show Steps p.tables e below (T32.setTop (mkF m 99 #[.val (.ref a1), .val (.double d2), .second, .val (.int (0 : Int32)), .val (.long r6), .second, .val (.int (0 : Int32))] [(.int (lcmpW (r6 &&& (1 : Int64)) (0 : Int64))), (.ref a1)])) _
          refine XS.ifNo X32.here hx rfl (hb hby d1_99) rfl (jteq hb0_99).2 ?_
          show Steps p.tables e below (T32.setTop (mkF m 102 #[.val (.ref a1), .val (.double d2), .second, .val (.int (0 : Int32)), .val (.long r6), .second, .val (.int (0 : Int32))] [(.ref a1)])) _
          refine XS.iconst X32.here hx rfl (hb hby d1_102) ?_
          show Steps p.tables e below (T32.setTop (mkF m 103 #[.val (.ref a1), .val (.double d2), .second, .val (.int (0 : Int32)), .val (.long r6), .second, .val (.int (0 : Int32))] [(.int (1 : Int32)), (.ref a1)])) _
          refine XS.goto X32.here hx rfl (pc0 := 103) (pc' := 107) rfl (hb hby d1_103) (by decide) (by decide) ?_
          exact kq
        · skip
          refine ⟨(0 : Int32), Or.inr (⟨hb0_99, rfl⟩), fun tq kq => pre33 tq ?_⟩
          show Steps p.tables e below (T32.setTop (mkF m 92 #[.val (.ref a1), .val (.double d2), .second, .val (.int (0 : Int32)), .val (.long r6), .second, .val (.int (0 : Int32))] [])) _
          refine XS.aloadN X32.here hx rfl (hb hby d1_92) rfl rfl ?_
          show Steps p.tables e below (T32.setTop (mkF m 93 #[.val (.ref a1), .val (.double d2), .second, .val (.int (0 : Int32)), .val (.long r6), .second, .val (.int (0 : Int32))] [(.ref a1)])) _
          refine XS.lload X32.here hx rfl (hb hby d1_93) rfl ?_
          show Steps p.tables e below (T32.setTop (mkF m 95 #[.val (.ref a1), .val (.double d2), .second, .val (.int (0 : Int32)), .val (.long r6), .second, .val (.int (0 : Int32))] [(.long r6), (.ref a1)])) _
          refine XS.lconst X32.here hx rfl (hb hby d1_95) ?_
          show Steps p.tables e below (T32.setTop (mkF m 96 #[.val (.ref a1), .val (.double d2), .second, .val (.int (0 : Int32)), .val (.long r6), .second, .val (.int (0 : Int32))] [(.long (1 : Int64)), (.long r6), (.ref a1)])) _
          refine XS.land X32.here hx rfl (hb hby d1_96) rfl ?_
          show Steps p.tables e below (T32.setTop (mkF m 97 #[.val (.ref a1), .val (.double d2), .second, .val (.int (0 : Int32)), .val (.long r6), .second, .val (.int (0 : Int32))] [(.long (r6 &&& (1 : Int64))), (.ref a1)])) _
          refine XS.lconst X32.here hx rfl (hb hby d1_97) ?_
          show Steps p.tables e below (T32.setTop (mkF m 98 #[.val (.ref a1), .val (.double d2), .second, .val (.int (0 : Int32)), .val (.long r6), .second, .val (.int (0 : Int32))] [(.long (0 : Int64)), (.long (r6 &&& (1 : Int64))), (.ref a1)])) _
          refine XS.lcmp X32.here hx rfl (hb hby d1_98) rfl ?_
          show Steps p.tables e below (T32.setTop (mkF m 99 #[.val (.ref a1), .val (.double d2), .second, .val (.int (0 : Int32)), .val (.long r6), .second, .val (.int (0 : Int32))] [(.int (lcmpW (r6 &&& (1 : Int64)) (0 : Int64))), (.ref a1)])) _
          refine XS.ifYes X32.here hx rfl (pc0 := 99) (pc' := 106) rfl (hb hby d1_99) rfl (jfeq hb0_99).2 (by decide) (by decide) ?_
          show Steps p.tables e below (T32.setTop (mkF m 106 #[.val (.ref a1), .val (.double d2), .second, .val (.int (0 : Int32)), .val (.long r6), .second, .val (.int (0 : Int32))] [(.ref a1)])) _
          refine XS.iconst X32.here hx rfl (hb hby d1_106) ?_
          exact kq
      obtain ⟨T42, h42, X42, e42, W42, st42⟩ := putFN X32 hx hZ hown (hw _ (List.mem_of_getElem? (i := 40) rfl)) Via.refl e32 f35 f34 (Or.inr ⟨(hw _ (List.mem_of_getElem? (i := 41) rfl)), rfl, hnm⟩) (hw _ (List.mem_of_getElem? (i := 2) rfl)) (ty := .boolean) (v' := (.int (nar .boolean v40))) (by decide) rfl (fits_nar_bool _) (g := (mkF m 107 #[.val (.ref a1), .val (.double d2), .second, .val (.int (0 : Int32)), .val (.long r6), .second, .val (.int (0 : Int32))] [(.int v40), (.ref a1)])) rfl rfl (hb hby d1_107)
      have pre43 : ∀ tq, Steps p.tables e below (T42.setTop (mkF m 110 #[.val (.ref a1), .val (.double d2), .second, .val (.int (0 : Int32)), .val (.long r6), .second, .val (.int (0 : Int32))] [])) tq → Steps p.tables e below (s₁.setTop (entryFrame m #[(.ref a1), (.double d2), (.int (0 : Int32))] 7)) tq := fun tq kq => pre41 tq (st42 _ kq)
      have N42 := Fr.snoc X42 N32 g_a1
      have K42 : Keep h0 h42 [a1] := Keep.wr K32 W42 (Or.inl (List.mem_of_getElem? (i := 0) rfl))
      have f44 := f34.wr W42
      have f45 := f36.wr W42
      have f46 := f37.other W42 (Ne.symm ne_a1_sF)
      have f47 := f38.other W42 (Or.inr (slot_ne (Or.inr (hw _ (List.mem_of_getElem? (i := 37) rfl))) (Or.inr (hw _ (List.mem_of_getElem? (i := 41) rfl))) (by decide) (t := .long) (t' := .boolean) (by decide) (by decide)))
      have f48 := f39.other W42 (Or.inr (slot_ne (Or.inr (hw _ (List.mem_of_getElem? (i := 39) rfl))) (Or.inr (hw _ (List.mem_of_getElem? (i := 41) rfl))) (by decide) (t := .long) (t' := .boolean) (by decide) (by decide)))
      have f49 := f35.same W42
      obtain ⟨fs, hr, hrun, hended, hW, hsame⟩ := X42.leave (v := none) (fun _ => rfl)
      refine ⟨_, _, pre43 _ ?_, hrun, hended, _, _, rfl, ?_, ⟨_, rfl⟩, hW, hsame.mono (by decide) (by decide)⟩
      · skip
        show Steps p.tables e below (T42.setTop (mkF m 110 #[.val (.ref a1), .val (.double d2), .second, .val (.int (0 : Int32)), .val (.long r6), .second, .val (.int (0 : Int32))] [])) _
        exact X42.returnOut hx Bd.returns (hb hby d1_110) hr
      · show Q1 Z a1 d2 mm ee sF kF h0 n0 _ T42.heap _
        rw [e42]
        refine ⟨r17, r30, (nar .boolean v40), rfl, N42, K42, f47, f48, f49, ?_⟩
        rw [own_v2p hq5 hbt.2.1 hbt.2.2.1] at hq29
        rw [own_v4 hq5 hbt.2.1 hbt.2.2.1] at hq16
        have gh : mm = 4503599627370496 := (own_gh hq5).mp hc23
        have ht : (0 : Int32).toInt = (ee : Int) := hq9
        have hz : (0 : Int32).toInt = 0 := by decide
        have he : ee = 0 := by omega
        subst he
        rw [if_neg (by omega)] at hq16
        refine ⟨Or.inl ⟨gh, Or.inl ⟨rfl, by omega⟩⟩, by omega, own_gn hq5 hj41⟩
    · skip
      have pre50 : ∀ tq, Steps p.tables e below (T9.setTop (mkF m 53 #[.val (.ref a1), .val (.double d2), .second, .val (.int (0 : Int32)), .val (.long r6), .second, .val (.int (0 : Int32))] [(.ref a1)])) tq → Steps p.tables e below (s₁.setTop (entryFrame m #[(.ref a1), (.double d2), (.int (0 : Int32))] 7)) tq := by
        refine fun tq kq => pre12 tq ?_
        show Steps p.tables e below (T9.setTop (mkF m 23 #[.val (.ref a1), .val (.double d2), .second, .val (.int (0 : Int32)), .val (.long r6), .second, .val (.int (0 : Int32))] [(.int (lcmpW r6 (4503599627370496 : Int64))), (.ref a1)])) _
        refine XS.ifYes X9.here hx rfl (pc0 := 23) (pc' := 53) rfl (hb hby d1_23) rfl (jfeq hc23).2 (by decide) (by decide) ?_
        exact kq
      have pre51 : ∀ tq, Steps p.tables e below (T9.setTop (mkF m 66 #[.val (.ref a1), .val (.double d2), .second, .val (.int (0 : Int32)), .val (.long r6), .second, .val (.int (0 : Int32))] [(.int (0 : Int32)), (.int (-1 : Int32)), (.long (((2 : Int64) * r6) - (1 : Int64))), (.ref a1)])) tq → Steps p.tables e below (s₁.setTop (entryFrame m #[(.ref a1), (.double d2), (.int (0 : Int32))] 7)) tq := by
        refine fun tq kq => pre50 tq ?_
        show Steps p.tables e below (T9.setTop (mkF m 53 #[.val (.ref a1), .val (.double d2), .second, .val (.int (0 : Int32)), .val (.long r6), .second, .val (.int (0 : Int32))] [(.ref a1)])) _
        refine X9.ldc2Long hx hown (mvT hZ (hw _ (List.mem_of_getElem? (i := 26) rfl))) (g := (mkF m 53 #[.val (.ref a1), .val (.double d2), .second, .val (.int (0 : Int32)), .val (.long r6), .second, .val (.int (0 : Int32))] [(.ref a1)])) rfl (hb hby d1_53) _ ?_
        show Steps p.tables e below (T9.setTop (mkF m 56 #[.val (.ref a1), .val (.double d2), .second, .val (.int (0 : Int32)), .val (.long r6), .second, .val (.int (0 : Int32))] [(.long (2 : Int64)), (.ref a1)])) _
        refine XS.lload X9.here hx rfl (hb hby d1_56) rfl ?_
        show Steps p.tables e below (T9.setTop (mkF m 58 #[.val (.ref a1), .val (.double d2), .second, .val (.int (0 : Int32)), .val (.long r6), .second, .val (.int (0 : Int32))] [(.long r6), (.long (2 : Int64)), (.ref a1)])) _
        refine XS.lmul X9.here hx rfl (hb hby d1_58) rfl ?_
        show Steps p.tables e below (T9.setTop (mkF m 59 #[.val (.ref a1), .val (.double d2), .second, .val (.int (0 : Int32)), .val (.long r6), .second, .val (.int (0 : Int32))] [(.long ((2 : Int64) * r6)), (.ref a1)])) _
        refine XS.lconst X9.here hx rfl (hb hby d1_59) ?_
        show Steps p.tables e below (T9.setTop (mkF m 60 #[.val (.ref a1), .val (.double d2), .second, .val (.int (0 : Int32)), .val (.long r6), .second, .val (.int (0 : Int32))] [(.long (1 : Int64)), (.long ((2 : Int64) * r6)), (.ref a1)])) _
        refine XS.lsub X9.here hx rfl (hb hby d1_60) rfl ?_
        show Steps p.tables e below (T9.setTop (mkF m 61 #[.val (.ref a1), .val (.double d2), .second, .val (.int (0 : Int32)), .val (.long r6), .second, .val (.int (0 : Int32))] [(.long (((2 : Int64) * r6) - (1 : Int64))), (.ref a1)])) _
        refine XS.iload X9.here hx rfl (hb hby d1_61) rfl ?_
        show Steps p.tables e below (T9.setTop (mkF m 63 #[.val (.ref a1), .val (.double d2), .second, .val (.int (0 : Int32)), .val (.long r6), .second, .val (.int (0 : Int32))] [(.int (0 : Int32)), (.long (((2 : Int64) * r6) - (1 : Int64))), (.ref a1)])) _
        refine XS.iconst X9.here hx rfl (hb hby d1_63) ?_
        show Steps p.tables e below (T9.setTop (mkF m 64 #[.val (.ref a1), .val (.double d2), .second, .val (.int (0 : Int32)), .val (.long r6), .second, .val (.int (0 : Int32))] [(.int (1 : Int32)), (.int (0 : Int32)), (.long (((2 : Int64) * r6) - (1 : Int64))), (.ref a1)])) _
        refine XS.isub X9.here hx rfl (hb hby d1_64) rfl ?_
        show Steps p.tables e below (T9.setTop (mkF m 65 #[.val (.ref a1), .val (.double d2), .second, .val (.int (0 : Int32)), .val (.long r6), .second, .val (.int (0 : Int32))] [(.int (-1 : Int32)), (.long (((2 : Int64) * r6) - (1 : Int64))), (.ref a1)])) _
        refine XS.iloadN X9.here hx rfl (hb hby d1_65) rfl ?_
        exact kq
      have Z52 : n0 ≤ h0.size := Z0
      obtain ⟨_, _, ⟨T52, L52, k52, n52⟩, -, X52, ⟨Lc52, hQ52, l52, y52, z52⟩, st52⟩ := Jvm.LawKit.callS X9 hx (y := (⟨"com/example/partwise/partwise/storage/DecimalRange", "twiceUnits", "(JII)J"⟩ : MethodName)) hown (mvT hZ (hw _ (List.mem_of_getElem? (i := 27) rfl))) (mvT hZ (hw _ (List.mem_of_getElem? (i := 28) rfl))) (mvT hZ (hw _ (List.mem_of_getElem? (i := 3) rfl))) (mvT hZ (hw _ (List.mem_of_getElem? (i := 29) rfl))) (by decide) (backOf (W := 1) (rm6_1 l Z a0 hw [] (((2 : Int64) * r6) - (1 : Int64)) sF kF h0 n0 Z52 (own_r2 hq5 hbt.2.1 hbt.2.2.1) S_FIVES V_sF) hZ (hw _ (List.mem_of_getElem? (i := 29) rfl)) (hw _ (List.mem_of_getElem? (i := 3) rfl)) (by decide) (by decide)) (g := (mkF m 66 #[.val (.ref a1), .val (.double d2), .second, .val (.int (0 : Int32)), .val (.long r6), .second, .val (.int (0 : Int32))] [(.int (0 : Int32)), (.int (-1 : Int32)), (.long (((2 : Int64) * r6) - (1 : Int64))), (.ref a1)])) rfl (by rw [hml]; rfl) (argsL := [(.long (((2 : Int64) * r6) - (1 : Int64))), (.int (-1 : Int32)), (.int (0 : Int32))]) (rest := [(.ref a1)]) (lenOf pd1_2 rfl) rfl (by show 2 * 0 + _ ≤ _; exact Nat.le_of_eq rfl) (hb hby d1_66) (fun _ _ => ⟨rfl, ehq9, (by decide : ((0 + 0) + 0) + 0 ≤ _), (by decide : ((0 + 0) + 0) + 0 ≤ _)⟩)
      dsimp only [Pt.U, Pt.locs, Pt.cells, Pt.slots] at X52 l52 y52 z52 st52 hQ52
      subst l52 y52 z52
      obtain ⟨r53, rfl, Nq52, ehq52, hq52⟩ := hQ52
      have N52 := Fr.app N9 Nq52
      have pre54 : ∀ tq, Steps p.tables e below (T52.setTop (mkF m 69 #[.val (.ref a1), .val (.double d2), .second, .val (.int (0 : Int32)), .val (.long r6), .second, .val (.int (0 : Int32))] [(.long r53), (.ref a1)])) tq → Steps p.tables e below (s₁.setTop (entryFrame m #[(.ref a1), (.double d2), (.int (0 : Int32))] 7)) tq := fun tq kq => pre51 tq (st52 _ kq)
      obtain ⟨T55, h55, X55, e55, W55, st55⟩ := putF X52 hx hZ hown (host := "") (Or.inl (hw _ (List.mem_of_getElem? (i := 36) rfl))) Via.refl ehq52 F_twiceBelow_a1 E_a1 (Or.inr ⟨(hw _ (List.mem_of_getElem? (i := 37) rfl)), rfl, hnm⟩) (hw _ (List.mem_of_getElem? (i := 2) rfl)) (ty := .long) (by decide) rfl rfl (g := (mkF m 69 #[.val (.ref a1), .val (.double d2), .second, .val (.int (0 : Int32)), .val (.long r6), .second, .val (.int (0 : Int32))] [(.long r53), (.ref a1)])) rfl rfl (hb hby d1_69)
      have pre56 : ∀ tq, Steps p.tables e below (T55.setTop (mkF m 72 #[.val (.ref a1), .val (.double d2), .second, .val (.int (0 : Int32)), .val (.long r6), .second, .val (.int (0 : Int32))] [])) tq → Steps p.tables e below (s₁.setTop (entryFrame m #[(.ref a1), (.double d2), (.int (0 : Int32))] 7)) tq := fun tq kq => pre54 tq (st55 _ kq)
      have N55 := Fr.snoc X55 N52 g_a1
      have K55 : Keep h0 h55 [a1] := Keep.wr (Keep.refl h0 [a1]) W55 (Or.inl (List.mem_of_getElem? (i := 0) rfl))
      have f57 := E_a1.wr W55
      have f58 := F_twiceAbove_a1.other W55 (Or.inr (slot_ne (Or.inr (hw _ (List.mem_of_getElem? (i := 39) rfl))) (Or.inr (hw _ (List.mem_of_getElem? (i := 37) rfl))) (by decide) (t := .long) (t' := .long) (by decide) (by decide)))
      have f59 := F_halfwayIncluded_a1.other W55 (Or.inr (slot_ne (Or.inr (hw _ (List.mem_of_getElem? (i := 41) rfl))) (Or.inr (hw _ (List.mem_of_getElem? (i := 37) rfl))) (by decide) (t := .boolean) (t' := .long) (by decide) (by decide)))
      have f60 := S_FIVES.wr W55
      have f61 := V_sF.other W55 (Ne.symm ne_a1_sF)
      have f62 := F_twiceBelow_a1.same W55
      have pre63 : ∀ tq, Steps p.tables e below (T55.setTop (mkF m 86 #[.val (.ref a1), .val (.double d2), .second, .val (.int (0 : Int32)), .val (.long r6), .second, .val (.int (0 : Int32))] [(.int (0 : Int32)), (.int (-1 : Int32)), (.long (((2 : Int64) * r6) + (1 : Int64))), (.ref a1)])) tq → Steps p.tables e below (s₁.setTop (entryFrame m #[(.ref a1), (.double d2), (.int (0 : Int32))] 7)) tq := by
        refine fun tq kq => pre56 tq ?_
        show Steps p.tables e below (T55.setTop (mkF m 72 #[.val (.ref a1), .val (.double d2), .second, .val (.int (0 : Int32)), .val (.long r6), .second, .val (.int (0 : Int32))] [])) _
        refine XS.aloadN X55.here hx rfl (hb hby d1_72) rfl rfl ?_
        show Steps p.tables e below (T55.setTop (mkF m 73 #[.val (.ref a1), .val (.double d2), .second, .val (.int (0 : Int32)), .val (.long r6), .second, .val (.int (0 : Int32))] [(.ref a1)])) _
        refine X55.ldc2Long hx hown (mvT hZ (hw _ (List.mem_of_getElem? (i := 26) rfl))) (g := (mkF m 73 #[.val (.ref a1), .val (.double d2), .second, .val (.int (0 : Int32)), .val (.long r6), .second, .val (.int (0 : Int32))] [(.ref a1)])) rfl (hb hby d1_73) _ ?_
        show Steps p.tables e below (T55.setTop (mkF m 76 #[.val (.ref a1), .val (.double d2), .second, .val (.int (0 : Int32)), .val (.long r6), .second, .val (.int (0 : Int32))] [(.long (2 : Int64)), (.ref a1)])) _
        refine XS.lload X55.here hx rfl (hb hby d1_76) rfl ?_
        show Steps p.tables e below (T55.setTop (mkF m 78 #[.val (.ref a1), .val (.double d2), .second, .val (.int (0 : Int32)), .val (.long r6), .second, .val (.int (0 : Int32))] [(.long r6), (.long (2 : Int64)), (.ref a1)])) _
        refine XS.lmul X55.here hx rfl (hb hby d1_78) rfl ?_
        show Steps p.tables e below (T55.setTop (mkF m 79 #[.val (.ref a1), .val (.double d2), .second, .val (.int (0 : Int32)), .val (.long r6), .second, .val (.int (0 : Int32))] [(.long ((2 : Int64) * r6)), (.ref a1)])) _
        refine XS.lconst X55.here hx rfl (hb hby d1_79) ?_
        show Steps p.tables e below (T55.setTop (mkF m 80 #[.val (.ref a1), .val (.double d2), .second, .val (.int (0 : Int32)), .val (.long r6), .second, .val (.int (0 : Int32))] [(.long (1 : Int64)), (.long ((2 : Int64) * r6)), (.ref a1)])) _
        refine XS.ladd X55.here hx rfl (hb hby d1_80) rfl ?_
        show Steps p.tables e below (T55.setTop (mkF m 81 #[.val (.ref a1), .val (.double d2), .second, .val (.int (0 : Int32)), .val (.long r6), .second, .val (.int (0 : Int32))] [(.long (((2 : Int64) * r6) + (1 : Int64))), (.ref a1)])) _
        refine XS.iload X55.here hx rfl (hb hby d1_81) rfl ?_
        show Steps p.tables e below (T55.setTop (mkF m 83 #[.val (.ref a1), .val (.double d2), .second, .val (.int (0 : Int32)), .val (.long r6), .second, .val (.int (0 : Int32))] [(.int (0 : Int32)), (.long (((2 : Int64) * r6) + (1 : Int64))), (.ref a1)])) _
        refine XS.iconst X55.here hx rfl (hb hby d1_83) ?_
        show Steps p.tables e below (T55.setTop (mkF m 84 #[.val (.ref a1), .val (.double d2), .second, .val (.int (0 : Int32)), .val (.long r6), .second, .val (.int (0 : Int32))] [(.int (1 : Int32)), (.int (0 : Int32)), (.long (((2 : Int64) * r6) + (1 : Int64))), (.ref a1)])) _
        refine XS.isub X55.here hx rfl (hb hby d1_84) rfl ?_
        show Steps p.tables e below (T55.setTop (mkF m 85 #[.val (.ref a1), .val (.double d2), .second, .val (.int (0 : Int32)), .val (.long r6), .second, .val (.int (0 : Int32))] [(.int (-1 : Int32)), (.long (((2 : Int64) * r6) + (1 : Int64))), (.ref a1)])) _
        refine XS.iloadN X55.here hx rfl (hb hby d1_85) rfl ?_
        exact kq
      have Z64 : n0 ≤ h55.size := (Nat.le_trans Z0 (Keep.of_wr W55).1)
      obtain ⟨_, _, ⟨T64, L64, k64, n64⟩, -, X64, ⟨Lc64, hQ64, l64, y64, z64⟩, st64⟩ := Jvm.LawKit.callS X55 hx (y := (⟨"com/example/partwise/partwise/storage/DecimalRange", "twiceUnits", "(JII)J"⟩ : MethodName)) hown (mvT hZ (hw _ (List.mem_of_getElem? (i := 27) rfl))) (mvT hZ (hw _ (List.mem_of_getElem? (i := 28) rfl))) (mvT hZ (hw _ (List.mem_of_getElem? (i := 3) rfl))) (mvT hZ (hw _ (List.mem_of_getElem? (i := 29) rfl))) (by decide) (backOf (W := 1) (rm6_1 l Z a0 hw [] (((2 : Int64) * r6) + (1 : Int64)) sF kF h55 n0 Z64 (own_r2p hq5 hbt.2.1 hbt.2.2.1) f60 f61) hZ (hw _ (List.mem_of_getElem? (i := 29) rfl)) (hw _ (List.mem_of_getElem? (i := 3) rfl)) (by decide) (by decide)) (g := (mkF m 86 #[.val (.ref a1), .val (.double d2), .second, .val (.int (0 : Int32)), .val (.long r6), .second, .val (.int (0 : Int32))] [(.int (0 : Int32)), (.int (-1 : Int32)), (.long (((2 : Int64) * r6) + (1 : Int64))), (.ref a1)])) rfl (by rw [hml]; rfl) (argsL := [(.long (((2 : Int64) * r6) + (1 : Int64))), (.int (-1 : Int32)), (.int (0 : Int32))]) (rest := [(.ref a1)]) (lenOf pd1_2 rfl) rfl (by show 2 * 0 + _ ≤ _; exact Nat.le_of_eq rfl) (hb hby d1_86) (fun _ _ => ⟨rfl, e55, (by decide : (((0 + 0) + 0) + 0) + 0 ≤ _), (by decide : (((0 + 0) + 0) + 0) + 0 ≤ _)⟩)
      dsimp only [Pt.U, Pt.locs, Pt.cells, Pt.slots] at X64 l64 y64 z64 st64 hQ64
      subst l64 y64 z64
      obtain ⟨r65, rfl, Nq64, ehq64, hq64⟩ := hQ64
      have N64 := Fr.app N55 Nq64
      have pre66 : ∀ tq, Steps p.tables e below (T64.setTop (mkF m 89 #[.val (.ref a1), .val (.double d2), .second, .val (.int (0 : Int32)), .val (.long r6), .second, .val (.int (0 : Int32))] [(.long r65), (.ref a1)])) tq → Steps p.tables e below (s₁.setTop (entryFrame m #[(.ref a1), (.double d2), (.int (0 : Int32))] 7)) tq := fun tq kq => pre63 tq (st64 _ kq)
      obtain ⟨T67, h67, X67, e67, W67, st67⟩ := putF X64 hx hZ hown (host := "") (Or.inl (hw _ (List.mem_of_getElem? (i := 38) rfl))) Via.refl ehq64 f58 f57 (Or.inr ⟨(hw _ (List.mem_of_getElem? (i := 39) rfl)), rfl, hnm⟩) (hw _ (List.mem_of_getElem? (i := 2) rfl)) (ty := .long) (by decide) rfl rfl (g := (mkF m 89 #[.val (.ref a1), .val (.double d2), .second, .val (.int (0 : Int32)), .val (.long r6), .second, .val (.int (0 : Int32))] [(.long r65), (.ref a1)])) rfl rfl (hb hby d1_89)
      have pre68 : ∀ tq, Steps p.tables e below (T67.setTop (mkF m 92 #[.val (.ref a1), .val (.double d2), .second, .val (.int (0 : Int32)), .val (.long r6), .second, .val (.int (0 : Int32))] [])) tq → Steps p.tables e below (s₁.setTop (entryFrame m #[(.ref a1), (.double d2), (.int (0 : Int32))] 7)) tq := fun tq kq => pre66 tq (st67 _ kq)
      have N67 := Fr.snoc X67 N64 g_a1
      have K67 : Keep h0 h67 [a1] := Keep.wr K55 W67 (Or.inl (List.mem_of_getElem? (i := 0) rfl))
      have f69 := f57.wr W67
      have f70 := f59.other W67 (Or.inr (slot_ne (Or.inr (hw _ (List.mem_of_getElem? (i := 41) rfl))) (Or.inr (hw _ (List.mem_of_getElem? (i := 39) rfl))) (by decide) (t := .boolean) (t' := .long) (by decide) (by decide)))
      have f71 := f60.wr W67
      have f72 := f61.other W67 (Ne.symm ne_a1_sF)
      have f73 := f62.other W67 (Or.inr (slot_ne (Or.inr (hw _ (List.mem_of_getElem? (i := 37) rfl))) (Or.inr (hw _ (List.mem_of_getElem? (i := 39) rfl))) (by decide) (t := .long) (t' := .long) (by decide) (by decide)))
      have f74 := f58.same W67
      obtain ⟨v75, hj76, pre76⟩ : ∃ v75 : Int32, (((r6 &&& (1 : Int64)) = (0 : Int64) ∧ v75 = (1 : Int32)) ∨ (¬ ((r6 &&& (1 : Int64)) = (0 : Int64)) ∧ v75 = (0 : Int32))) ∧ (∀ tq, Steps p.tables e below (T67.setTop (mkF m 107 #[.val (.ref a1), .val (.double d2), .second, .val (.int (0 : Int32)), .val (.long r6), .second, .val (.int (0 : Int32))] [(.int v75), (.ref a1)])) tq → Steps p.tables e below (s₁.setTop (entryFrame m #[(.ref a1), (.double d2), (.int (0 : Int32))] 7)) tq) := by
        by_cases hb0_99 : (r6 &&& (1 : Int64)) = (0 : Int64)
        · skip
          refine ⟨(1 : Int32), Or.inl (⟨hb0_99, rfl⟩), fun tq kq => pre68 tq ?_⟩
          show Steps p.tables e below (T67.setTop (mkF m 92 #[.val (.ref a1), .val (.double d2), .second, .val (.int (0 : Int32)), .val (.long r6), .second, .val (.int (0 : Int32))] [])) _
          refine XS.aloadN X67.here hx rfl (hb hby d1_92) rfl rfl ?_
          show Steps p.tables e below (T67.setTop (mkF m 93 #[.val (.ref a1), .val (.double d2), .second, .val (.int (0 : Int32)), .val (.long r6), .second, .val (.int (0 : Int32))] [(.ref a1)])) _
          refine XS.lload X67.here hx rfl (hb hby d1_93) rfl ?_
          show Steps p.tables e below (T67.setTop (mkF m 95 #[.val (.ref a1), .val (.double d2), .second, .val (.int (0 : Int32)), .val (.long r6), .second, .val (.int (0 : Int32))] [(.long r6), (.ref a1)])) _
          refine XS.lconst X67.here hx rfl (hb hby d1_95) ?_
          show Steps p.tables e below (T67.setTop (mkF m 96 #[.val (.ref a1), .val (.double d2), .second, .val (.int (0 : Int32)), .val (.long r6), .second, .val (.int (0 : Int32))] [(.long (1 : Int64)), (.long r6), (.ref a1)])) _
          refine XS.land X67.here hx rfl (hb hby d1_96) rfl ?_
          show Steps p.tables e below (T67.setTop (mkF m 97 #[.val (.ref a1), .val (.double d2), .second, .val (.int (0 : Int32)), .val (.long r6), .second, .val (.int (0 : Int32))] [(.long (r6 &&& (1 : Int64))), (.ref a1)])) _
          refine XS.lconst X67.here hx rfl (hb hby d1_97) ?_
          show Steps p.tables e below (T67.setTop (mkF m 98 #[.val (.ref a1), .val (.double d2), .second, .val (.int (0 : Int32)), .val (.long r6), .second, .val (.int (0 : Int32))] [(.long (0 : Int64)), (.long (r6 &&& (1 : Int64))), (.ref a1)])) _
          refine XS.lcmp X67.here hx rfl (hb hby d1_98) rfl ?_
          show Steps p.tables e below (T67.setTop (mkF m 99 #[.val (.ref a1), .val (.double d2), .second, .val (.int (0 : Int32)), .val (.long r6), .second, .val (.int (0 : Int32))] [(.int (lcmpW (r6 &&& (1 : Int64)) (0 : Int64))), (.ref a1)])) _
          refine XS.ifNo X67.here hx rfl (hb hby d1_99) rfl (jteq hb0_99).2 ?_
          show Steps p.tables e below (T67.setTop (mkF m 102 #[.val (.ref a1), .val (.double d2), .second, .val (.int (0 : Int32)), .val (.long r6), .second, .val (.int (0 : Int32))] [(.ref a1)])) _
          refine XS.iconst X67.here hx rfl (hb hby d1_102) ?_
          show Steps p.tables e below (T67.setTop (mkF m 103 #[.val (.ref a1), .val (.double d2), .second, .val (.int (0 : Int32)), .val (.long r6), .second, .val (.int (0 : Int32))] [(.int (1 : Int32)), (.ref a1)])) _
          refine XS.goto X67.here hx rfl (pc0 := 103) (pc' := 107) rfl (hb hby d1_103) (by decide) (by decide) ?_
          exact kq
        · skip
          refine ⟨(0 : Int32), Or.inr (⟨hb0_99, rfl⟩), fun tq kq => pre68 tq ?_⟩
          show Steps p.tables e below (T67.setTop (mkF m 92 #[.val (.ref a1), .val (.double d2), .second, .val (.int (0 : Int32)), .val (.long r6), .second, .val (.int (0 : Int32))] [])) _
          refine XS.aloadN X67.here hx rfl (hb hby d1_92) rfl rfl ?_
          show Steps p.tables e below (T67.setTop (mkF m 93 #[.val (.ref a1), .val (.double d2), .second, .val (.int (0 : Int32)), .val (.long r6), .second, .val (.int (0 : Int32))] [(.ref a1)])) _
          refine XS.lload X67.here hx rfl (hb hby d1_93) rfl ?_
          show Steps p.tables e below (T67.setTop (mkF m 95 #[.val (.ref a1), .val (.double d2), .second, .val (.int (0 : Int32)), .val (.long r6), .second, .val (.int (0 : Int32))] [(.long r6), (.ref a1)])) _
          refine XS.lconst X67.here hx rfl (hb hby d1_95) ?_
          show Steps p.tables e below (T67.setTop (mkF m 96 #[.val (.ref a1), .val (.double d2), .second, .val (.int (0 : Int32)), .val (.long r6), .second, .val (.int (0 : Int32))] [(.long (1 : Int64)), (.long r6), (.ref a1)])) _
          refine XS.land X67.here hx rfl (hb hby d1_96) rfl ?_
          show Steps p.tables e below (T67.setTop (mkF m 97 #[.val (.ref a1), .val (.double d2), .second, .val (.int (0 : Int32)), .val (.long r6), .second, .val (.int (0 : Int32))] [(.long (r6 &&& (1 : Int64))), (.ref a1)])) _
          refine XS.lconst X67.here hx rfl (hb hby d1_97) ?_
          show Steps p.tables e below (T67.setTop (mkF m 98 #[.val (.ref a1), .val (.double d2), .second, .val (.int (0 : Int32)), .val (.long r6), .second, .val (.int (0 : Int32))] [(.long (0 : Int64)), (.long (r6 &&& (1 : Int64))), (.ref a1)])) _
          refine XS.lcmp X67.here hx rfl (hb hby d1_98) rfl ?_
          show Steps p.tables e below (T67.setTop (mkF m 99 #[.val (.ref a1), .val (.double d2), .second, .val (.int (0 : Int32)), .val (.long r6), .second, .val (.int (0 : Int32))] [(.int (lcmpW (r6 &&& (1 : Int64)) (0 : Int64))), (.ref a1)])) _
          refine XS.ifYes X67.here hx rfl (pc0 := 99) (pc' := 106) rfl (hb hby d1_99) rfl (jfeq hb0_99).2 (by decide) (by decide) ?_
          show Steps p.tables e below (T67.setTop (mkF m 106 #[.val (.ref a1), .val (.double d2), .second, .val (.int (0 : Int32)), .val (.long r6), .second, .val (.int (0 : Int32))] [(.ref a1)])) _
          refine XS.iconst X67.here hx rfl (hb hby d1_106) ?_
          exact kq
      obtain ⟨T77, h77, X77, e77, W77, st77⟩ := putFN X67 hx hZ hown (hw _ (List.mem_of_getElem? (i := 40) rfl)) Via.refl e67 f70 f69 (Or.inr ⟨(hw _ (List.mem_of_getElem? (i := 41) rfl)), rfl, hnm⟩) (hw _ (List.mem_of_getElem? (i := 2) rfl)) (ty := .boolean) (v' := (.int (nar .boolean v75))) (by decide) rfl (fits_nar_bool _) (g := (mkF m 107 #[.val (.ref a1), .val (.double d2), .second, .val (.int (0 : Int32)), .val (.long r6), .second, .val (.int (0 : Int32))] [(.int v75), (.ref a1)])) rfl rfl (hb hby d1_107)
      have pre78 : ∀ tq, Steps p.tables e below (T77.setTop (mkF m 110 #[.val (.ref a1), .val (.double d2), .second, .val (.int (0 : Int32)), .val (.long r6), .second, .val (.int (0 : Int32))] [])) tq → Steps p.tables e below (s₁.setTop (entryFrame m #[(.ref a1), (.double d2), (.int (0 : Int32))] 7)) tq := fun tq kq => pre76 tq (st77 _ kq)
      have N77 := Fr.snoc X77 N67 g_a1
      have K77 : Keep h0 h77 [a1] := Keep.wr K67 W77 (Or.inl (List.mem_of_getElem? (i := 0) rfl))
      have f79 := f69.wr W77
      have f80 := f71.wr W77
      have f81 := f72.other W77 (Ne.symm ne_a1_sF)
      have f82 := f73.other W77 (Or.inr (slot_ne (Or.inr (hw _ (List.mem_of_getElem? (i := 37) rfl))) (Or.inr (hw _ (List.mem_of_getElem? (i := 41) rfl))) (by decide) (t := .long) (t' := .boolean) (by decide) (by decide)))
      have f83 := f74.other W77 (Or.inr (slot_ne (Or.inr (hw _ (List.mem_of_getElem? (i := 39) rfl))) (Or.inr (hw _ (List.mem_of_getElem? (i := 41) rfl))) (by decide) (t := .long) (t' := .boolean) (by decide) (by decide)))
      have f84 := f70.same W77
      obtain ⟨fs, hr, hrun, hended, hW, hsame⟩ := X77.leave (v := none) (fun _ => rfl)
      refine ⟨_, _, pre78 _ ?_, hrun, hended, _, _, rfl, ?_, ⟨_, rfl⟩, hW, hsame.mono (by decide) (by decide)⟩
      · skip
        show Steps p.tables e below (T77.setTop (mkF m 110 #[.val (.ref a1), .val (.double d2), .second, .val (.int (0 : Int32)), .val (.long r6), .second, .val (.int (0 : Int32))] [])) _
        exact X77.returnOut hx Bd.returns (hb hby d1_110) hr
      · show Q1 Z a1 d2 mm ee sF kF h0 n0 _ T77.heap _
        rw [e77]
        refine ⟨r53, r65, (nar .boolean v75), rfl, N77, K77, f82, f83, f84, ?_⟩
        rw [own_v2p hq5 hbt.2.1 hbt.2.2.1] at hq64
        rw [own_v2 hq5 hbt.2.1 hbt.2.2.1] at hq52
        have gh : mm ≠ 4503599627370496 := fun z => hc23 ((own_gh hq5).mpr z)
        have ht : (0 : Int32).toInt = (ee : Int) := hq9
        have hz : (0 : Int32).toInt = 0 := by decide
        have he : ee = 0 := by omega
        subst he
        refine ⟨Or.inr ⟨gh, by omega⟩, by omega, own_gn hq5 hj76⟩
  · skip
    subst hk
    have pre85 : ∀ tq, Steps p.tables e below (T9.setTop (mkF m 23 #[.val (.ref a1), .val (.double d2), .second, .val (.int (0 : Int32)), .val (.long r6), .second, .val (.int (1 : Int32))] [(.int (lcmpW r6 (4503599627370496 : Int64))), (.ref a1)])) tq → Steps p.tables e below (s₁.setTop (entryFrame m #[(.ref a1), (.double d2), (.int (0 : Int32))] 7)) tq := by
      refine fun tq kq => pre11 tq ?_
      show Steps p.tables e below (T9.setTop (mkF m 14 #[.val (.ref a1), .val (.double d2), .second, .val (.int (0 : Int32)), .val (.long r6), .second, .unset] [(.int (1 : Int32))])) _
      refine XS.istore X9.here hx rfl (hb hby d1_14) rfl (l' := #[.val (.ref a1), .val (.double d2), .second, .val (.int (0 : Int32)), .val (.long r6), .second, .val (.int (1 : Int32))]) rfl ?_
      show Steps p.tables e below (T9.setTop (mkF m 16 #[.val (.ref a1), .val (.double d2), .second, .val (.int (0 : Int32)), .val (.long r6), .second, .val (.int (1 : Int32))] [])) _
      refine XS.aloadN X9.here hx rfl (hb hby d1_16) rfl rfl ?_
      show Steps p.tables e below (T9.setTop (mkF m 17 #[.val (.ref a1), .val (.double d2), .second, .val (.int (0 : Int32)), .val (.long r6), .second, .val (.int (1 : Int32))] [(.ref a1)])) _
      refine XS.lload X9.here hx rfl (hb hby d1_17) rfl ?_
      show Steps p.tables e below (T9.setTop (mkF m 19 #[.val (.ref a1), .val (.double d2), .second, .val (.int (0 : Int32)), .val (.long r6), .second, .val (.int (1 : Int32))] [(.long r6), (.ref a1)])) _
      refine X9.ldc2Long hx hown (mvT hZ (hw _ (List.mem_of_getElem? (i := 18) rfl))) (g := (mkF m 19 #[.val (.ref a1), .val (.double d2), .second, .val (.int (0 : Int32)), .val (.long r6), .second, .val (.int (1 : Int32))] [(.long r6), (.ref a1)])) rfl (hb hby d1_19) _ ?_
      show Steps p.tables e below (T9.setTop (mkF m 22 #[.val (.ref a1), .val (.double d2), .second, .val (.int (0 : Int32)), .val (.long r6), .second, .val (.int (1 : Int32))] [(.long (4503599627370496 : Int64)), (.long r6), (.ref a1)])) _
      refine XS.lcmp X9.here hx rfl (hb hby d1_22) rfl ?_
      exact kq
    by_cases hc23 : r6 = (4503599627370496 : Int64)
    · skip
      have pre86 : ∀ tq, Steps p.tables e below (T9.setTop (mkF m 26 #[.val (.ref a1), .val (.double d2), .second, .val (.int (0 : Int32)), .val (.long r6), .second, .val (.int (1 : Int32))] [(.ref a1)])) tq → Steps p.tables e below (s₁.setTop (entryFrame m #[(.ref a1), (.double d2), (.int (0 : Int32))] 7)) tq := by
        refine fun tq kq => pre85 tq ?_
        show Steps p.tables e below (T9.setTop (mkF m 23 #[.val (.ref a1), .val (.double d2), .second, .val (.int (0 : Int32)), .val (.long r6), .second, .val (.int (1 : Int32))] [(.int (lcmpW r6 (4503599627370496 : Int64))), (.ref a1)])) _
        refine XS.ifNo X9.here hx rfl (hb hby d1_23) rfl (jteq hc23).2 ?_
        exact kq
      have pre87 : ∀ tq, Steps p.tables e below (T9.setTop (mkF m 34 #[.val (.ref a1), .val (.double d2), .second, .val (.int (0 : Int32)), .val (.long r6), .second, .val (.int (1 : Int32))] [(.ref a1)])) tq → Steps p.tables e below (s₁.setTop (entryFrame m #[(.ref a1), (.double d2), (.int (0 : Int32))] 7)) tq := by
        refine fun tq kq => pre86 tq ?_
        show Steps p.tables e below (T9.setTop (mkF m 26 #[.val (.ref a1), .val (.double d2), .second, .val (.int (0 : Int32)), .val (.long r6), .second, .val (.int (1 : Int32))] [(.ref a1)])) _
        refine XS.iload X9.here hx rfl (hb hby d1_26) rfl ?_
        show Steps p.tables e below (T9.setTop (mkF m 28 #[.val (.ref a1), .val (.double d2), .second, .val (.int (0 : Int32)), .val (.long r6), .second, .val (.int (1 : Int32))] [(.int (1 : Int32)), (.ref a1)])) _
        refine XS.sipush X9.here hx rfl (hb hby d1_28) ?_
        show Steps p.tables e below (T9.setTop (mkF m 31 #[.val (.ref a1), .val (.double d2), .second, .val (.int (0 : Int32)), .val (.long r6), .second, .val (.int (1 : Int32))] [(.int (-1074 : Int32)), (.int (1 : Int32)), (.ref a1)])) _
        refine XS.icmpNo X9.here hx rfl (hb hby d1_31) rfl (tlt (by decide : (-1074 : Int32) < (1 : Int32))).2.2.2 ?_
        exact kq
      have pre88 : ∀ tq, Steps p.tables e below (T9.setTop (mkF m 47 #[.val (.ref a1), .val (.double d2), .second, .val (.int (0 : Int32)), .val (.long r6), .second, .val (.int (1 : Int32))] [(.int (0 : Int32)), (.int (-1 : Int32)), (.long (((4 : Int64) * r6) - (1 : Int64))), (.ref a1)])) tq → Steps p.tables e below (s₁.setTop (entryFrame m #[(.ref a1), (.double d2), (.int (0 : Int32))] 7)) tq := by
        refine fun tq kq => pre87 tq ?_
        show Steps p.tables e below (T9.setTop (mkF m 34 #[.val (.ref a1), .val (.double d2), .second, .val (.int (0 : Int32)), .val (.long r6), .second, .val (.int (1 : Int32))] [(.ref a1)])) _
        refine X9.ldc2Long hx hown (mvT hZ (hw _ (List.mem_of_getElem? (i := 50) rfl))) (g := (mkF m 34 #[.val (.ref a1), .val (.double d2), .second, .val (.int (0 : Int32)), .val (.long r6), .second, .val (.int (1 : Int32))] [(.ref a1)])) rfl (hb hby d1_34) _ ?_
        show Steps p.tables e below (T9.setTop (mkF m 37 #[.val (.ref a1), .val (.double d2), .second, .val (.int (0 : Int32)), .val (.long r6), .second, .val (.int (1 : Int32))] [(.long (4 : Int64)), (.ref a1)])) _
        refine XS.lload X9.here hx rfl (hb hby d1_37) rfl ?_
        show Steps p.tables e below (T9.setTop (mkF m 39 #[.val (.ref a1), .val (.double d2), .second, .val (.int (0 : Int32)), .val (.long r6), .second, .val (.int (1 : Int32))] [(.long r6), (.long (4 : Int64)), (.ref a1)])) _
        refine XS.lmul X9.here hx rfl (hb hby d1_39) rfl ?_
        show Steps p.tables e below (T9.setTop (mkF m 40 #[.val (.ref a1), .val (.double d2), .second, .val (.int (0 : Int32)), .val (.long r6), .second, .val (.int (1 : Int32))] [(.long ((4 : Int64) * r6)), (.ref a1)])) _
        refine XS.lconst X9.here hx rfl (hb hby d1_40) ?_
        show Steps p.tables e below (T9.setTop (mkF m 41 #[.val (.ref a1), .val (.double d2), .second, .val (.int (0 : Int32)), .val (.long r6), .second, .val (.int (1 : Int32))] [(.long (1 : Int64)), (.long ((4 : Int64) * r6)), (.ref a1)])) _
        refine XS.lsub X9.here hx rfl (hb hby d1_41) rfl ?_
        show Steps p.tables e below (T9.setTop (mkF m 42 #[.val (.ref a1), .val (.double d2), .second, .val (.int (0 : Int32)), .val (.long r6), .second, .val (.int (1 : Int32))] [(.long (((4 : Int64) * r6) - (1 : Int64))), (.ref a1)])) _
        refine XS.iload X9.here hx rfl (hb hby d1_42) rfl ?_
        show Steps p.tables e below (T9.setTop (mkF m 44 #[.val (.ref a1), .val (.double d2), .second, .val (.int (0 : Int32)), .val (.long r6), .second, .val (.int (1 : Int32))] [(.int (1 : Int32)), (.long (((4 : Int64) * r6) - (1 : Int64))), (.ref a1)])) _
        refine XS.iconst X9.here hx rfl (hb hby d1_44) ?_
        show Steps p.tables e below (T9.setTop (mkF m 45 #[.val (.ref a1), .val (.double d2), .second, .val (.int (0 : Int32)), .val (.long r6), .second, .val (.int (1 : Int32))] [(.int (2 : Int32)), (.int (1 : Int32)), (.long (((4 : Int64) * r6) - (1 : Int64))), (.ref a1)])) _
        refine XS.isub X9.here hx rfl (hb hby d1_45) rfl ?_
        show Steps p.tables e below (T9.setTop (mkF m 46 #[.val (.ref a1), .val (.double d2), .second, .val (.int (0 : Int32)), .val (.long r6), .second, .val (.int (1 : Int32))] [(.int (-1 : Int32)), (.long (((4 : Int64) * r6) - (1 : Int64))), (.ref a1)])) _
        refine XS.iloadN X9.here hx rfl (hb hby d1_46) rfl ?_
        exact kq
      have Z89 : n0 ≤ h0.size := Z0
      obtain ⟨_, _, ⟨T89, L89, k89, n89⟩, -, X89, ⟨Lc89, hQ89, l89, y89, z89⟩, st89⟩ := Jvm.LawKit.callS X9 hx (y := (⟨"com/example/partwise/partwise/storage/DecimalRange", "twiceUnits", "(JII)J"⟩ : MethodName)) hown (mvT hZ (hw _ (List.mem_of_getElem? (i := 27) rfl))) (mvT hZ (hw _ (List.mem_of_getElem? (i := 28) rfl))) (mvT hZ (hw _ (List.mem_of_getElem? (i := 3) rfl))) (mvT hZ (hw _ (List.mem_of_getElem? (i := 29) rfl))) (by decide) (backOf (W := 1) (rm6_1 l Z a0 hw [] (((4 : Int64) * r6) - (1 : Int64)) sF kF h0 n0 Z89 (own_r4 hq5 hbt.2.1 hbt.2.2.1) S_FIVES V_sF) hZ (hw _ (List.mem_of_getElem? (i := 29) rfl)) (hw _ (List.mem_of_getElem? (i := 3) rfl)) (by decide) (by decide)) (g := (mkF m 47 #[.val (.ref a1), .val (.double d2), .second, .val (.int (0 : Int32)), .val (.long r6), .second, .val (.int (1 : Int32))] [(.int (0 : Int32)), (.int (-1 : Int32)), (.long (((4 : Int64) * r6) - (1 : Int64))), (.ref a1)])) rfl (by rw [hml]; rfl) (argsL := [(.long (((4 : Int64) * r6) - (1 : Int64))), (.int (-1 : Int32)), (.int (0 : Int32))]) (rest := [(.ref a1)]) (lenOf pd1_2 rfl) rfl (by show 2 * 0 + _ ≤ _; exact Nat.le_of_eq rfl) (hb hby d1_47) (fun _ _ => ⟨rfl, ehq9, (by decide : ((0 + 0) + 0) + 0 ≤ _), (by decide : ((0 + 0) + 0) + 0 ≤ _)⟩)
      dsimp only [Pt.U, Pt.locs, Pt.cells, Pt.slots] at X89 l89 y89 z89 st89 hQ89
      subst l89 y89 z89
      obtain ⟨r90, rfl, Nq89, ehq89, hq89⟩ := hQ89
      have N89 := Fr.app N9 Nq89
      have pre91 : ∀ tq, Steps p.tables e below (T89.setTop (mkF m 50 #[.val (.ref a1), .val (.double d2), .second, .val (.int (0 : Int32)), .val (.long r6), .second, .val (.int (1 : Int32))] [(.long r90), (.ref a1)])) tq → Steps p.tables e below (s₁.setTop (entryFrame m #[(.ref a1), (.double d2), (.int (0 : Int32))] 7)) tq := fun tq kq => pre88 tq (st89 _ kq)
      have pre92 : ∀ tq, Steps p.tables e below (T89.setTop (mkF m 69 #[.val (.ref a1), .val (.double d2), .second, .val (.int (0 : Int32)), .val (.long r6), .second, .val (.int (1 : Int32))] [(.long r90), (.ref a1)])) tq → Steps p.tables e below (s₁.setTop (entryFrame m #[(.ref a1), (.double d2), (.int (0 : Int32))] 7)) tq := by
        refine fun tq kq => pre91 tq ?_
        show Steps p.tables e below (T89.setTop (mkF m 50 #[.val (.ref a1), .val (.double d2), .second, .val (.int (0 : Int32)), .val (.long r6), .second, .val (.int (1 : Int32))] [(.long r90), (.ref a1)])) _
        refine XS.goto X89.here hx rfl (pc0 := 50) (pc' := 69) rfl (hb hby d1_50) (by decide) (by decide) ?_
        exact kq
      obtain ⟨T93, h93, X93, e93, W93, st93⟩ := putF X89 hx hZ hown (host := "") (Or.inl (hw _ (List.mem_of_getElem? (i := 36) rfl))) Via.refl ehq89 F_twiceBelow_a1 E_a1 (Or.inr ⟨(hw _ (List.mem_of_getElem? (i := 37) rfl)), rfl, hnm⟩) (hw _ (List.mem_of_getElem? (i := 2) rfl)) (ty := .long) (by decide) rfl rfl (g := (mkF m 69 #[.val (.ref a1), .val (.double d2), .second, .val (.int (0 : Int32)), .val (.long r6), .second, .val (.int (1 : Int32))] [(.long r90), (.ref a1)])) rfl rfl (hb hby d1_69)
      have pre94 : ∀ tq, Steps p.tables e below (T93.setTop (mkF m 72 #[.val (.ref a1), .val (.double d2), .second, .val (.int (0 : Int32)), .val (.long r6), .second, .val (.int (1 : Int32))] [])) tq → Steps p.tables e below (s₁.setTop (entryFrame m #[(.ref a1), (.double d2), (.int (0 : Int32))] 7)) tq := fun tq kq => pre92 tq (st93 _ kq)
      have N93 := Fr.snoc X93 N89 g_a1
      have K93 : Keep h0 h93 [a1] := Keep.wr (Keep.refl h0 [a1]) W93 (Or.inl (List.mem_of_getElem? (i := 0) rfl))
      have f95 := E_a1.wr W93
      have f96 := F_twiceAbove_a1.other W93 (Or.inr (slot_ne (Or.inr (hw _ (List.mem_of_getElem? (i := 39) rfl))) (Or.inr (hw _ (List.mem_of_getElem? (i := 37) rfl))) (by decide) (t := .long) (t' := .long) (by decide) (by decide)))
      have f97 := F_halfwayIncluded_a1.other W93 (Or.inr (slot_ne (Or.inr (hw _ (List.mem_of_getElem? (i := 41) rfl))) (Or.inr (hw _ (List.mem_of_getElem? (i := 37) rfl))) (by decide) (t := .boolean) (t' := .long) (by decide) (by decide)))
      have f98 := S_FIVES.wr W93
      have f99 := V_sF.other W93 (Ne.symm ne_a1_sF)
      have f100 := F_twiceBelow_a1.same W93
      have pre101 : ∀ tq, Steps p.tables e below (T93.setTop (mkF m 86 #[.val (.ref a1), .val (.double d2), .second, .val (.int (0 : Int32)), .val (.long r6), .second, .val (.int (1 : Int32))] [(.int (0 : Int32)), (.int (0 : Int32)), (.long (((2 : Int64) * r6) + (1 : Int64))), (.ref a1)])) tq → Steps p.tables e below (s₁.setTop (entryFrame m #[(.ref a1), (.double d2), (.int (0 : Int32))] 7)) tq := by
        refine fun tq kq => pre94 tq ?_
        show Steps p.tables e below (T93.setTop (mkF m 72 #[.val (.ref a1), .val (.double d2), .second, .val (.int (0 : Int32)), .val (.long r6), .second, .val (.int (1 : Int32))] [])) _
        refine XS.aloadN X93.here hx rfl (hb hby d1_72) rfl rfl ?_
        show Steps p.tables e below (T93.setTop (mkF m 73 #[.val (.ref a1), .val (.double d2), .second, .val (.int (0 : Int32)), .val (.long r6), .second, .val (.int (1 : Int32))] [(.ref a1)])) _
        refine X93.ldc2Long hx hown (mvT hZ (hw _ (List.mem_of_getElem? (i := 26) rfl))) (g := (mkF m 73 #[.val (.ref a1), .val (.double d2), .second, .val (.int (0 : Int32)), .val (.long r6), .second, .val (.int (1 : Int32))] [(.ref a1)])) rfl (hb hby d1_73) _ ?_
        show Steps p.tables e below (T93.setTop (mkF m 76 #[.val (.ref a1), .val (.double d2), .second, .val (.int (0 : Int32)), .val (.long r6), .second, .val (.int (1 : Int32))] [(.long (2 : Int64)), (.ref a1)])) _
        refine XS.lload X93.here hx rfl (hb hby d1_76) rfl ?_
        show Steps p.tables e below (T93.setTop (mkF m 78 #[.val (.ref a1), .val (.double d2), .second, .val (.int (0 : Int32)), .val (.long r6), .second, .val (.int (1 : Int32))] [(.long r6), (.long (2 : Int64)), (.ref a1)])) _
        refine XS.lmul X93.here hx rfl (hb hby d1_78) rfl ?_
        show Steps p.tables e below (T93.setTop (mkF m 79 #[.val (.ref a1), .val (.double d2), .second, .val (.int (0 : Int32)), .val (.long r6), .second, .val (.int (1 : Int32))] [(.long ((2 : Int64) * r6)), (.ref a1)])) _
        refine XS.lconst X93.here hx rfl (hb hby d1_79) ?_
        show Steps p.tables e below (T93.setTop (mkF m 80 #[.val (.ref a1), .val (.double d2), .second, .val (.int (0 : Int32)), .val (.long r6), .second, .val (.int (1 : Int32))] [(.long (1 : Int64)), (.long ((2 : Int64) * r6)), (.ref a1)])) _
        refine XS.ladd X93.here hx rfl (hb hby d1_80) rfl ?_
        show Steps p.tables e below (T93.setTop (mkF m 81 #[.val (.ref a1), .val (.double d2), .second, .val (.int (0 : Int32)), .val (.long r6), .second, .val (.int (1 : Int32))] [(.long (((2 : Int64) * r6) + (1 : Int64))), (.ref a1)])) _
        refine XS.iload X93.here hx rfl (hb hby d1_81) rfl ?_
        show Steps p.tables e below (T93.setTop (mkF m 83 #[.val (.ref a1), .val (.double d2), .second, .val (.int (0 : Int32)), .val (.long r6), .second, .val (.int (1 : Int32))] [(.int (1 : Int32)), (.long (((2 : Int64) * r6) + (1 : Int64))), (.ref a1)])) _
        refine XS.iconst X93.here hx rfl (hb hby d1_83) ?_
        show Steps p.tables e below (T93.setTop (mkF m 84 #[.val (.ref a1), .val (.double d2), .second, .val (.int (0 : Int32)), .val (.long r6), .second, .val (.int (1 : Int32))] [(.int (1 : Int32)), (.int (1 : Int32)), (.long (((2 : Int64) * r6) + (1 : Int64))), (.ref a1)])) _
        refine XS.isub X93.here hx rfl (hb hby d1_84) rfl ?_
        show Steps p.tables e below (T93.setTop (mkF m 85 #[.val (.ref a1), .val (.double d2), .second, .val (.int (0 : Int32)), .val (.long r6), .second, .val (.int (1 : Int32))] [(.int (0 : Int32)), (.long (((2 : Int64) * r6) + (1 : Int64))), (.ref a1)])) _
        refine XS.iloadN X93.here hx rfl (hb hby d1_85) rfl ?_
        exact kq
      have Z102 : n0 ≤ h93.size := (Nat.le_trans Z0 (Keep.of_wr W93).1)
      obtain ⟨_, _, ⟨T102, L102, k102, n102⟩, -, X102, ⟨Lc102, hQ102, l102, y102, z102⟩, st102⟩ := Jvm.LawKit.callS X93 hx (y := (⟨"com/example/partwise/partwise/storage/DecimalRange", "twiceUnits", "(JII)J"⟩ : MethodName)) hown (mvT hZ (hw _ (List.mem_of_getElem? (i := 27) rfl))) (mvT hZ (hw _ (List.mem_of_getElem? (i := 28) rfl))) (mvT hZ (hw _ (List.mem_of_getElem? (i := 3) rfl))) (mvT hZ (hw _ (List.mem_of_getElem? (i := 29) rfl))) (by decide) (backOf (W := 1) (rm6_ge l Z a0 hw [] (((2 : Int64) * r6) + (1 : Int64)) (0 : Int32) sF kF 0 h93 n0 Z102 (own_r2p hq5 hbt.2.1 hbt.2.2.1) f98 f99 (⟨by decide, by decide⟩)) hZ (hw _ (List.mem_of_getElem? (i := 29) rfl)) (hw _ (List.mem_of_getElem? (i := 3) rfl)) (by decide) (by decide)) (g := (mkF m 86 #[.val (.ref a1), .val (.double d2), .second, .val (.int (0 : Int32)), .val (.long r6), .second, .val (.int (1 : Int32))] [(.int (0 : Int32)), (.int (0 : Int32)), (.long (((2 : Int64) * r6) + (1 : Int64))), (.ref a1)])) rfl (by rw [hml]; rfl) (argsL := [(.long (((2 : Int64) * r6) + (1 : Int64))), (.int (0 : Int32)), (.int (0 : Int32))]) (rest := [(.ref a1)]) (lenOf pd1_2 rfl) rfl (by show 2 * 0 + _ ≤ _; exact Nat.le_of_eq rfl) (hb hby d1_86) (fun _ _ => ⟨rfl, e93, (by decide : (((0 + 0) + 0) + 0) + 0 ≤ _), (by decide : (((0 + 0) + 0) + 0) + 0 ≤ _)⟩)
      dsimp only [Pt.U, Pt.locs, Pt.cells, Pt.slots] at X102 l102 y102 z102 st102 hQ102
      subst l102 y102 z102
      obtain ⟨r103, rfl, Nq102, ehq102, hq102⟩ := hQ102
      have N102 := Fr.app N93 Nq102
      have pre104 : ∀ tq, Steps p.tables e below (T102.setTop (mkF m 89 #[.val (.ref a1), .val (.double d2), .second, .val (.int (0 : Int32)), .val (.long r6), .second, .val (.int (1 : Int32))] [(.long r103), (.ref a1)])) tq → Steps p.tables e below (s₁.setTop (entryFrame m #[(.ref a1), (.double d2), (.int (0 : Int32))] 7)) tq := fun tq kq => pre101 tq (st102 _ kq)
      obtain ⟨T105, h105, X105, e105, W105, st105⟩ := putF X102 hx hZ hown (host := "") (Or.inl (hw _ (List.mem_of_getElem? (i := 38) rfl))) Via.refl ehq102 f96 f95 (Or.inr ⟨(hw _ (List.mem_of_getElem? (i := 39) rfl)), rfl, hnm⟩) (hw _ (List.mem_of_getElem? (i := 2) rfl)) (ty := .long) (by decide) rfl rfl (g := (mkF m 89 #[.val (.ref a1), .val (.double d2), .second, .val (.int (0 : Int32)), .val (.long r6), .second, .val (.int (1 : Int32))] [(.long r103), (.ref a1)])) rfl rfl (hb hby d1_89)
      have pre106 : ∀ tq, Steps p.tables e below (T105.setTop (mkF m 92 #[.val (.ref a1), .val (.double d2), .second, .val (.int (0 : Int32)), .val (.long r6), .second, .val (.int (1 : Int32))] [])) tq → Steps p.tables e below (s₁.setTop (entryFrame m #[(.ref a1), (.double d2), (.int (0 : Int32))] 7)) tq := fun tq kq => pre104 tq (st105 _ kq)
      have N105 := Fr.snoc X105 N102 g_a1
      have K105 : Keep h0 h105 [a1] := Keep.wr K93 W105 (Or.inl (List.mem_of_getElem? (i := 0) rfl))
      have f107 := f95.wr W105
      have f108 := f97.other W105 (Or.inr (slot_ne (Or.inr (hw _ (List.mem_of_getElem? (i := 41) rfl))) (Or.inr (hw _ (List.mem_of_getElem? (i := 39) rfl))) (by decide) (t := .boolean) (t' := .long) (by decide) (by decide)))
      have f109 := f98.wr W105
      have f110 := f99.other W105 (Ne.symm ne_a1_sF)
      have f111 := f100.other W105 (Or.inr (slot_ne (Or.inr (hw _ (List.mem_of_getElem? (i := 37) rfl))) (Or.inr (hw _ (List.mem_of_getElem? (i := 39) rfl))) (by decide) (t := .long) (t' := .long) (by decide) (by decide)))
      have f112 := f96.same W105
      obtain ⟨v113, hj114, pre114⟩ : ∃ v113 : Int32, (((r6 &&& (1 : Int64)) = (0 : Int64) ∧ v113 = (1 : Int32)) ∨ (¬ ((r6 &&& (1 : Int64)) = (0 : Int64)) ∧ v113 = (0 : Int32))) ∧ (∀ tq, Steps p.tables e below (T105.setTop (mkF m 107 #[.val (.ref a1), .val (.double d2), .second, .val (.int (0 : Int32)), .val (.long r6), .second, .val (.int (1 : Int32))] [(.int v113), (.ref a1)])) tq → Steps p.tables e below (s₁.setTop (entryFrame m #[(.ref a1), (.double d2), (.int (0 : Int32))] 7)) tq) := by
        by_cases hb0_99 : (r6 &&& (1 : Int64)) = (0 : Int64)
        · skip
          refine ⟨(1 : Int32), Or.inl (⟨hb0_99, rfl⟩), fun tq kq => pre106 tq ?_⟩
          show Steps p.tables e below (T105.setTop (mkF m 92 #[.val (.ref a1), .val (.double d2), .second, .val (.int (0 : Int32)), .val (.long r6), .second, .val (.int (1 : Int32))] [])) _
          refine XS.aloadN X105.here hx rfl (hb hby d1_92) rfl rfl ?_
          show Steps p.tables e below (T105.setTop (mkF m 93 #[.val (.ref a1), .val (.double d2), .second, .val (.int (0 : Int32)), .val (.long r6), .second, .val (.int (1 : Int32))] [(.ref a1)])) _
          refine XS.lload X105.here hx rfl (hb hby d1_93) rfl ?_
          show Steps p.tables e below (T105.setTop (mkF m 95 #[.val (.ref a1), .val (.double d2), .second, .val (.int (0 : Int32)), .val (.long r6), .second, .val (.int (1 : Int32))] [(.long r6), (.ref a1)])) _
          refine XS.lconst X105.here hx rfl (hb hby d1_95) ?_
          show Steps p.tables e below (T105.setTop (mkF m 96 #[.val (.ref a1), .val (.double d2), .second, .val (.int (0 : Int32)), .val (.long r6), .second, .val (.int (1 : Int32))] [(.long (1 : Int64)), (.long r6), (.ref a1)])) _
          refine XS.land X105.here hx rfl (hb hby d1_96) rfl ?_
          show Steps p.tables e below (T105.setTop (mkF m 97 #[.val (.ref a1), .val (.double d2), .second, .val (.int (0 : Int32)), .val (.long r6), .second, .val (.int (1 : Int32))] [(.long (r6 &&& (1 : Int64))), (.ref a1)])) _
          refine XS.lconst X105.here hx rfl (hb hby d1_97) ?_
          show Steps p.tables e below (T105.setTop (mkF m 98 #[.val (.ref a1), .val (.double d2), .second, .val (.int (0 : Int32)), .val (.long r6), .second, .val (.int (1 : Int32))] [(.long (0 : Int64)), (.long (r6 &&& (1 : Int64))), (.ref a1)])) _
          refine XS.lcmp X105.here hx rfl (hb hby d1_98) rfl ?_
          show Steps p.tables e below (T105.setTop (mkF m 99 #[.val (.ref a1), .val (.double d2), .second, .val (.int (0 : Int32)), .val (.long r6), .second, .val (.int (1 : Int32))] [(.int (lcmpW (r6 &&& (1 : Int64)) (0 : Int64))), (.ref a1)])) _
          refine XS.ifNo X105.here hx rfl (hb hby d1_99) rfl (jteq hb0_99).2 ?_
          show Steps p.tables e below (T105.setTop (mkF m 102 #[.val (.ref a1), .val (.double d2), .second, .val (.int (0 : Int32)), .val (.long r6), .second, .val (.int (1 : Int32))] [(.ref a1)])) _
          refine XS.iconst X105.here hx rfl (hb hby d1_102) ?_
          show Steps p.tables e below (T105.setTop (mkF m 103 #[.val (.ref a1), .val (.double d2), .second, .val (.int (0 : Int32)), .val (.long r6), .second, .val (.int (1 : Int32))] [(.int (1 : Int32)), (.ref a1)])) _
          refine XS.goto X105.here hx rfl (pc0 := 103) (pc' := 107) rfl (hb hby d1_103) (by decide) (by decide) ?_
          exact kq
        · skip
          refine ⟨(0 : Int32), Or.inr (⟨hb0_99, rfl⟩), fun tq kq => pre106 tq ?_⟩
          show Steps p.tables e below (T105.setTop (mkF m 92 #[.val (.ref a1), .val (.double d2), .second, .val (.int (0 : Int32)), .val (.long r6), .second, .val (.int (1 : Int32))] [])) _
          refine XS.aloadN X105.here hx rfl (hb hby d1_92) rfl rfl ?_
          show Steps p.tables e below (T105.setTop (mkF m 93 #[.val (.ref a1), .val (.double d2), .second, .val (.int (0 : Int32)), .val (.long r6), .second, .val (.int (1 : Int32))] [(.ref a1)])) _
          refine XS.lload X105.here hx rfl (hb hby d1_93) rfl ?_
          show Steps p.tables e below (T105.setTop (mkF m 95 #[.val (.ref a1), .val (.double d2), .second, .val (.int (0 : Int32)), .val (.long r6), .second, .val (.int (1 : Int32))] [(.long r6), (.ref a1)])) _
          refine XS.lconst X105.here hx rfl (hb hby d1_95) ?_
          show Steps p.tables e below (T105.setTop (mkF m 96 #[.val (.ref a1), .val (.double d2), .second, .val (.int (0 : Int32)), .val (.long r6), .second, .val (.int (1 : Int32))] [(.long (1 : Int64)), (.long r6), (.ref a1)])) _
          refine XS.land X105.here hx rfl (hb hby d1_96) rfl ?_
          show Steps p.tables e below (T105.setTop (mkF m 97 #[.val (.ref a1), .val (.double d2), .second, .val (.int (0 : Int32)), .val (.long r6), .second, .val (.int (1 : Int32))] [(.long (r6 &&& (1 : Int64))), (.ref a1)])) _
          refine XS.lconst X105.here hx rfl (hb hby d1_97) ?_
          show Steps p.tables e below (T105.setTop (mkF m 98 #[.val (.ref a1), .val (.double d2), .second, .val (.int (0 : Int32)), .val (.long r6), .second, .val (.int (1 : Int32))] [(.long (0 : Int64)), (.long (r6 &&& (1 : Int64))), (.ref a1)])) _
          refine XS.lcmp X105.here hx rfl (hb hby d1_98) rfl ?_
          show Steps p.tables e below (T105.setTop (mkF m 99 #[.val (.ref a1), .val (.double d2), .second, .val (.int (0 : Int32)), .val (.long r6), .second, .val (.int (1 : Int32))] [(.int (lcmpW (r6 &&& (1 : Int64)) (0 : Int64))), (.ref a1)])) _
          refine XS.ifYes X105.here hx rfl (pc0 := 99) (pc' := 106) rfl (hb hby d1_99) rfl (jfeq hb0_99).2 (by decide) (by decide) ?_
          show Steps p.tables e below (T105.setTop (mkF m 106 #[.val (.ref a1), .val (.double d2), .second, .val (.int (0 : Int32)), .val (.long r6), .second, .val (.int (1 : Int32))] [(.ref a1)])) _
          refine XS.iconst X105.here hx rfl (hb hby d1_106) ?_
          exact kq
      obtain ⟨T115, h115, X115, e115, W115, st115⟩ := putFN X105 hx hZ hown (hw _ (List.mem_of_getElem? (i := 40) rfl)) Via.refl e105 f108 f107 (Or.inr ⟨(hw _ (List.mem_of_getElem? (i := 41) rfl)), rfl, hnm⟩) (hw _ (List.mem_of_getElem? (i := 2) rfl)) (ty := .boolean) (v' := (.int (nar .boolean v113))) (by decide) rfl (fits_nar_bool _) (g := (mkF m 107 #[.val (.ref a1), .val (.double d2), .second, .val (.int (0 : Int32)), .val (.long r6), .second, .val (.int (1 : Int32))] [(.int v113), (.ref a1)])) rfl rfl (hb hby d1_107)
      have pre116 : ∀ tq, Steps p.tables e below (T115.setTop (mkF m 110 #[.val (.ref a1), .val (.double d2), .second, .val (.int (0 : Int32)), .val (.long r6), .second, .val (.int (1 : Int32))] [])) tq → Steps p.tables e below (s₁.setTop (entryFrame m #[(.ref a1), (.double d2), (.int (0 : Int32))] 7)) tq := fun tq kq => pre114 tq (st115 _ kq)
      have N115 := Fr.snoc X115 N105 g_a1
      have K115 : Keep h0 h115 [a1] := Keep.wr K105 W115 (Or.inl (List.mem_of_getElem? (i := 0) rfl))
      have f117 := f107.wr W115
      have f118 := f109.wr W115
      have f119 := f110.other W115 (Ne.symm ne_a1_sF)
      have f120 := f111.other W115 (Or.inr (slot_ne (Or.inr (hw _ (List.mem_of_getElem? (i := 37) rfl))) (Or.inr (hw _ (List.mem_of_getElem? (i := 41) rfl))) (by decide) (t := .long) (t' := .boolean) (by decide) (by decide)))
      have f121 := f112.other W115 (Or.inr (slot_ne (Or.inr (hw _ (List.mem_of_getElem? (i := 39) rfl))) (Or.inr (hw _ (List.mem_of_getElem? (i := 41) rfl))) (by decide) (t := .long) (t' := .boolean) (by decide) (by decide)))
      have f122 := f108.same W115
      obtain ⟨fs, hr, hrun, hended, hW, hsame⟩ := X115.leave (v := none) (fun _ => rfl)
      refine ⟨_, _, pre116 _ ?_, hrun, hended, _, _, rfl, ?_, ⟨_, rfl⟩, hW, hsame.mono (by decide) (by decide)⟩
      · skip
        show Steps p.tables e below (T115.setTop (mkF m 110 #[.val (.ref a1), .val (.double d2), .second, .val (.int (0 : Int32)), .val (.long r6), .second, .val (.int (1 : Int32))] [])) _
        exact X115.returnOut hx Bd.returns (hb hby d1_110) hr
      · show Q1 Z a1 d2 mm ee sF kF h0 n0 _ T115.heap _
        rw [e115]
        refine ⟨r90, r103, (nar .boolean v113), rfl, N115, K115, f120, f121, f122, ?_⟩
        rw [own_v2p hq5 hbt.2.1 hbt.2.2.1] at hq102
        rw [own_v4 hq5 hbt.2.1 hbt.2.2.1] at hq89
        have gh : mm = 4503599627370496 := (own_gh hq5).mp hc23
        have ht : (1 : Int32).toInt = (ee : Int) := hq9
        have hz : (1 : Int32).toInt = 1 := by decide
        have he : ee = 1 := by omega
        subst he
        refine ⟨Or.inl ⟨gh, Or.inr ⟨by decide, by omega⟩⟩, by omega, own_gn hq5 hj114⟩
    · skip
      have pre123 : ∀ tq, Steps p.tables e below (T9.setTop (mkF m 53 #[.val (.ref a1), .val (.double d2), .second, .val (.int (0 : Int32)), .val (.long r6), .second, .val (.int (1 : Int32))] [(.ref a1)])) tq → Steps p.tables e below (s₁.setTop (entryFrame m #[(.ref a1), (.double d2), (.int (0 : Int32))] 7)) tq := by
        refine fun tq kq => pre85 tq ?_
        show Steps p.tables e below (T9.setTop (mkF m 23 #[.val (.ref a1), .val (.double d2), .second, .val (.int (0 : Int32)), .val (.long r6), .second, .val (.int (1 : Int32))] [(.int (lcmpW r6 (4503599627370496 : Int64))), (.ref a1)])) _
        refine XS.ifYes X9.here hx rfl (pc0 := 23) (pc' := 53) rfl (hb hby d1_23) rfl (jfeq hc23).2 (by decide) (by decide) ?_
        exact kq
      have pre124 : ∀ tq, Steps p.tables e below (T9.setTop (mkF m 66 #[.val (.ref a1), .val (.double d2), .second, .val (.int (0 : Int32)), .val (.long r6), .second, .val (.int (1 : Int32))] [(.int (0 : Int32)), (.int (0 : Int32)), (.long (((2 : Int64) * r6) - (1 : Int64))), (.ref a1)])) tq → Steps p.tables e below (s₁.setTop (entryFrame m #[(.ref a1), (.double d2), (.int (0 : Int32))] 7)) tq := by
        refine fun tq kq => pre123 tq ?_
        show Steps p.tables e below (T9.setTop (mkF m 53 #[.val (.ref a1), .val (.double d2), .second, .val (.int (0 : Int32)), .val (.long r6), .second, .val (.int (1 : Int32))] [(.ref a1)])) _
        refine X9.ldc2Long hx hown (mvT hZ (hw _ (List.mem_of_getElem? (i := 26) rfl))) (g := (mkF m 53 #[.val (.ref a1), .val (.double d2), .second, .val (.int (0 : Int32)), .val (.long r6), .second, .val (.int (1 : Int32))] [(.ref a1)])) rfl (hb hby d1_53) _ ?_
        show Steps p.tables e below (T9.setTop (mkF m 56 #[.val (.ref a1), .val (.double d2), .second, .val (.int (0 : Int32)), .val (.long r6), .second, .val (.int (1 : Int32))] [(.long (2 : Int64)), (.ref a1)])) _
        refine XS.lload X9.here hx rfl (hb hby d1_56) rfl ?_
        show Steps p.tables e below (T9.setTop (mkF m 58 #[.val (.ref a1), .val (.double d2), .second, .val (.int (0 : Int32)), .val (.long r6), .second, .val (.int (1 : Int32))] [(.long r6), (.long (2 : Int64)), (.ref a1)])) _
        refine XS.lmul X9.here hx rfl (hb hby d1_58) rfl ?_
        show Steps p.tables e below (T9.setTop (mkF m 59 #[.val (.ref a1), .val (.double d2), .second, .val (.int (0 : Int32)), .val (.long r6), .second, .val (.int (1 : Int32))] [(.long ((2 : Int64) * r6)), (.ref a1)])) _
        refine XS.lconst X9.here hx rfl (hb hby d1_59) ?_
        show Steps p.tables e below (T9.setTop (mkF m 60 #[.val (.ref a1), .val (.double d2), .second, .val (.int (0 : Int32)), .val (.long r6), .second, .val (.int (1 : Int32))] [(.long (1 : Int64)), (.long ((2 : Int64) * r6)), (.ref a1)])) _
        refine XS.lsub X9.here hx rfl (hb hby d1_60) rfl ?_
        show Steps p.tables e below (T9.setTop (mkF m 61 #[.val (.ref a1), .val (.double d2), .second, .val (.int (0 : Int32)), .val (.long r6), .second, .val (.int (1 : Int32))] [(.long (((2 : Int64) * r6) - (1 : Int64))), (.ref a1)])) _
        refine XS.iload X9.here hx rfl (hb hby d1_61) rfl ?_
        show Steps p.tables e below (T9.setTop (mkF m 63 #[.val (.ref a1), .val (.double d2), .second, .val (.int (0 : Int32)), .val (.long r6), .second, .val (.int (1 : Int32))] [(.int (1 : Int32)), (.long (((2 : Int64) * r6) - (1 : Int64))), (.ref a1)])) _
        refine XS.iconst X9.here hx rfl (hb hby d1_63) ?_
        show Steps p.tables e below (T9.setTop (mkF m 64 #[.val (.ref a1), .val (.double d2), .second, .val (.int (0 : Int32)), .val (.long r6), .second, .val (.int (1 : Int32))] [(.int (1 : Int32)), (.int (1 : Int32)), (.long (((2 : Int64) * r6) - (1 : Int64))), (.ref a1)])) _
        refine XS.isub X9.here hx rfl (hb hby d1_64) rfl ?_
        show Steps p.tables e below (T9.setTop (mkF m 65 #[.val (.ref a1), .val (.double d2), .second, .val (.int (0 : Int32)), .val (.long r6), .second, .val (.int (1 : Int32))] [(.int (0 : Int32)), (.long (((2 : Int64) * r6) - (1 : Int64))), (.ref a1)])) _
        refine XS.iloadN X9.here hx rfl (hb hby d1_65) rfl ?_
        exact kq
      have Z125 : n0 ≤ h0.size := Z0
      obtain ⟨_, _, ⟨T125, L125, k125, n125⟩, -, X125, ⟨Lc125, hQ125, l125, y125, z125⟩, st125⟩ := Jvm.LawKit.callS X9 hx (y := (⟨"com/example/partwise/partwise/storage/DecimalRange", "twiceUnits", "(JII)J"⟩ : MethodName)) hown (mvT hZ (hw _ (List.mem_of_getElem? (i := 27) rfl))) (mvT hZ (hw _ (List.mem_of_getElem? (i := 28) rfl))) (mvT hZ (hw _ (List.mem_of_getElem? (i := 3) rfl))) (mvT hZ (hw _ (List.mem_of_getElem? (i := 29) rfl))) (by decide) (backOf (W := 1) (rm6_ge l Z a0 hw [] (((2 : Int64) * r6) - (1 : Int64)) (0 : Int32) sF kF 0 h0 n0 Z125 (own_r2 hq5 hbt.2.1 hbt.2.2.1) S_FIVES V_sF (⟨by decide, by decide⟩)) hZ (hw _ (List.mem_of_getElem? (i := 29) rfl)) (hw _ (List.mem_of_getElem? (i := 3) rfl)) (by decide) (by decide)) (g := (mkF m 66 #[.val (.ref a1), .val (.double d2), .second, .val (.int (0 : Int32)), .val (.long r6), .second, .val (.int (1 : Int32))] [(.int (0 : Int32)), (.int (0 : Int32)), (.long (((2 : Int64) * r6) - (1 : Int64))), (.ref a1)])) rfl (by rw [hml]; rfl) (argsL := [(.long (((2 : Int64) * r6) - (1 : Int64))), (.int (0 : Int32)), (.int (0 : Int32))]) (rest := [(.ref a1)]) (lenOf pd1_2 rfl) rfl (by show 2 * 0 + _ ≤ _; exact Nat.le_of_eq rfl) (hb hby d1_66) (fun _ _ => ⟨rfl, ehq9, (by decide : ((0 + 0) + 0) + 0 ≤ _), (by decide : ((0 + 0) + 0) + 0 ≤ _)⟩)
      dsimp only [Pt.U, Pt.locs, Pt.cells, Pt.slots] at X125 l125 y125 z125 st125 hQ125
      subst l125 y125 z125
      obtain ⟨r126, rfl, Nq125, ehq125, hq125⟩ := hQ125
      have N125 := Fr.app N9 Nq125
      have pre127 : ∀ tq, Steps p.tables e below (T125.setTop (mkF m 69 #[.val (.ref a1), .val (.double d2), .second, .val (.int (0 : Int32)), .val (.long r6), .second, .val (.int (1 : Int32))] [(.long r126), (.ref a1)])) tq → Steps p.tables e below (s₁.setTop (entryFrame m #[(.ref a1), (.double d2), (.int (0 : Int32))] 7)) tq := fun tq kq => pre124 tq (st125 _ kq)
      obtain ⟨T128, h128, X128, e128, W128, st128⟩ := putF X125 hx hZ hown (host := "") (Or.inl (hw _ (List.mem_of_getElem? (i := 36) rfl))) Via.refl ehq125 F_twiceBelow_a1 E_a1 (Or.inr ⟨(hw _ (List.mem_of_getElem? (i := 37) rfl)), rfl, hnm⟩) (hw _ (List.mem_of_getElem? (i := 2) rfl)) (ty := .long) (by decide) rfl rfl (g := (mkF m 69 #[.val (.ref a1), .val (.double d2), .second, .val (.int (0 : Int32)), .val (.long r6), .second, .val (.int (1 : Int32))] [(.long r126), (.ref a1)])) rfl rfl (hb hby d1_69)
      have pre129 : ∀ tq, Steps p.tables e below (T128.setTop (mkF m 72 #[.val (.ref a1), .val (.double d2), .second, .val (.int (0 : Int32)), .val (.long r6), .second, .val (.int (1 : Int32))] [])) tq → Steps p.tables e below (s₁.setTop (entryFrame m #[(.ref a1), (.double d2), (.int (0 : Int32))] 7)) tq := fun tq kq => pre127 tq (st128 _ kq)
      have N128 := Fr.snoc X128 N125 g_a1
      have K128 : Keep h0 h128 [a1] := Keep.wr (Keep.refl h0 [a1]) W128 (Or.inl (List.mem_of_getElem? (i := 0) rfl))
      have f130 := E_a1.wr W128
      have f131 := F_twiceAbove_a1.other W128 (Or.inr (slot_ne (Or.inr (hw _ (List.mem_of_getElem? (i := 39) rfl))) (Or.inr (hw _ (List.mem_of_getElem? (i := 37) rfl))) (by decide) (t := .long) (t' := .long) (by decide) (by decide)))
      have f132 := F_halfwayIncluded_a1.other W128 (Or.inr (slot_ne (Or.inr (hw _ (List.mem_of_getElem? (i := 41) rfl))) (Or.inr (hw _ (List.mem_of_getElem? (i := 37) rfl))) (by decide) (t := .boolean) (t' := .long) (by decide) (by decide)))
      have f133 := S_FIVES.wr W128
      have f134 := V_sF.other W128 (Ne.symm ne_a1_sF)
      have f135 := F_twiceBelow_a1.same W128
      have pre136 : ∀ tq, Steps p.tables e below (T128.setTop (mkF m 86 #[.val (.ref a1), .val (.double d2), .second, .val (.int (0 : Int32)), .val (.long r6), .second, .val (.int (1 : Int32))] [(.int (0 : Int32)), (.int (0 : Int32)), (.long (((2 : Int64) * r6) + (1 : Int64))), (.ref a1)])) tq → Steps p.tables e below (s₁.setTop (entryFrame m #[(.ref a1), (.double d2), (.int (0 : Int32))] 7)) tq := by
        refine fun tq kq => pre129 tq ?_
        show Steps p.tables e below (T128.setTop (mkF m 72 #[.val (.ref a1), .val (.double d2), .second, .val (.int (0 : Int32)), .val (.long r6), .second, .val (.int (1 : Int32))] [])) _
        refine XS.aloadN X128.here hx rfl (hb hby d1_72) rfl rfl ?_
        show Steps p.tables e below (T128.setTop (mkF m 73 #[.val (.ref a1), .val (.double d2), .second, .val (.int (0 : Int32)), .val (.long r6), .second, .val (.int (1 : Int32))] [(.ref a1)])) _
        refine X128.ldc2Long hx hown (mvT hZ (hw _ (List.mem_of_getElem? (i := 26) rfl))) (g := (mkF m 73 #[.val (.ref a1), .val (.double d2), .second, .val (.int (0 : Int32)), .val (.long r6), .second, .val (.int (1 : Int32))] [(.ref a1)])) rfl (hb hby d1_73) _ ?_
        show Steps p.tables e below (T128.setTop (mkF m 76 #[.val (.ref a1), .val (.double d2), .second, .val (.int (0 : Int32)), .val (.long r6), .second, .val (.int (1 : Int32))] [(.long (2 : Int64)), (.ref a1)])) _
        refine XS.lload X128.here hx rfl (hb hby d1_76) rfl ?_
        show Steps p.tables e below (T128.setTop (mkF m 78 #[.val (.ref a1), .val (.double d2), .second, .val (.int (0 : Int32)), .val (.long r6), .second, .val (.int (1 : Int32))] [(.long r6), (.long (2 : Int64)), (.ref a1)])) _
        refine XS.lmul X128.here hx rfl (hb hby d1_78) rfl ?_
        show Steps p.tables e below (T128.setTop (mkF m 79 #[.val (.ref a1), .val (.double d2), .second, .val (.int (0 : Int32)), .val (.long r6), .second, .val (.int (1 : Int32))] [(.long ((2 : Int64) * r6)), (.ref a1)])) _
        refine XS.lconst X128.here hx rfl (hb hby d1_79) ?_
        show Steps p.tables e below (T128.setTop (mkF m 80 #[.val (.ref a1), .val (.double d2), .second, .val (.int (0 : Int32)), .val (.long r6), .second, .val (.int (1 : Int32))] [(.long (1 : Int64)), (.long ((2 : Int64) * r6)), (.ref a1)])) _
        refine XS.ladd X128.here hx rfl (hb hby d1_80) rfl ?_
        show Steps p.tables e below (T128.setTop (mkF m 81 #[.val (.ref a1), .val (.double d2), .second, .val (.int (0 : Int32)), .val (.long r6), .second, .val (.int (1 : Int32))] [(.long (((2 : Int64) * r6) + (1 : Int64))), (.ref a1)])) _
        refine XS.iload X128.here hx rfl (hb hby d1_81) rfl ?_
        show Steps p.tables e below (T128.setTop (mkF m 83 #[.val (.ref a1), .val (.double d2), .second, .val (.int (0 : Int32)), .val (.long r6), .second, .val (.int (1 : Int32))] [(.int (1 : Int32)), (.long (((2 : Int64) * r6) + (1 : Int64))), (.ref a1)])) _
        refine XS.iconst X128.here hx rfl (hb hby d1_83) ?_
        show Steps p.tables e below (T128.setTop (mkF m 84 #[.val (.ref a1), .val (.double d2), .second, .val (.int (0 : Int32)), .val (.long r6), .second, .val (.int (1 : Int32))] [(.int (1 : Int32)), (.int (1 : Int32)), (.long (((2 : Int64) * r6) + (1 : Int64))), (.ref a1)])) _
        refine XS.isub X128.here hx rfl (hb hby d1_84) rfl ?_
        show Steps p.tables e below (T128.setTop (mkF m 85 #[.val (.ref a1), .val (.double d2), .second, .val (.int (0 : Int32)), .val (.long r6), .second, .val (.int (1 : Int32))] [(.int (0 : Int32)), (.long (((2 : Int64) * r6) + (1 : Int64))), (.ref a1)])) _
        refine XS.iloadN X128.here hx rfl (hb hby d1_85) rfl ?_
        exact kq
      have Z137 : n0 ≤ h128.size := (Nat.le_trans Z0 (Keep.of_wr W128).1)
      obtain ⟨_, _, ⟨T137, L137, k137, n137⟩, -, X137, ⟨Lc137, hQ137, l137, y137, z137⟩, st137⟩ := Jvm.LawKit.callS X128 hx (y := (⟨"com/example/partwise/partwise/storage/DecimalRange", "twiceUnits", "(JII)J"⟩ : MethodName)) hown (mvT hZ (hw _ (List.mem_of_getElem? (i := 27) rfl))) (mvT hZ (hw _ (List.mem_of_getElem? (i := 28) rfl))) (mvT hZ (hw _ (List.mem_of_getElem? (i := 3) rfl))) (mvT hZ (hw _ (List.mem_of_getElem? (i := 29) rfl))) (by decide) (backOf (W := 1) (rm6_ge l Z a0 hw [] (((2 : Int64) * r6) + (1 : Int64)) (0 : Int32) sF kF 0 h128 n0 Z137 (own_r2p hq5 hbt.2.1 hbt.2.2.1) f133 f134 (⟨by decide, by decide⟩)) hZ (hw _ (List.mem_of_getElem? (i := 29) rfl)) (hw _ (List.mem_of_getElem? (i := 3) rfl)) (by decide) (by decide)) (g := (mkF m 86 #[.val (.ref a1), .val (.double d2), .second, .val (.int (0 : Int32)), .val (.long r6), .second, .val (.int (1 : Int32))] [(.int (0 : Int32)), (.int (0 : Int32)), (.long (((2 : Int64) * r6) + (1 : Int64))), (.ref a1)])) rfl (by rw [hml]; rfl) (argsL := [(.long (((2 : Int64) * r6) + (1 : Int64))), (.int (0 : Int32)), (.int (0 : Int32))]) (rest := [(.ref a1)]) (lenOf pd1_2 rfl) rfl (by show 2 * 0 + _ ≤ _; exact Nat.le_of_eq rfl) (hb hby d1_86) (fun _ _ => ⟨rfl, e128, (by decide : (((0 + 0) + 0) + 0) + 0 ≤ _), (by decide : (((0 + 0) + 0) + 0) + 0 ≤ _)⟩)
      dsimp only [Pt.U, Pt.locs, Pt.cells, Pt.slots] at X137 l137 y137 z137 st137 hQ137
      subst l137 y137 z137
      obtain ⟨r138, rfl, Nq137, ehq137, hq137⟩ := hQ137
      have N137 := Fr.app N128 Nq137
      have pre139 : ∀ tq, Steps p.tables e below (T137.setTop (mkF m 89 #[.val (.ref a1), .val (.double d2), .second, .val (.int (0 : Int32)), .val (.long r6), .second, .val (.int (1 : Int32))] [(.long r138), (.ref a1)])) tq → Steps p.tables e below (s₁.setTop (entryFrame m #[(.ref a1), (.double d2), (.int (0 : Int32))] 7)) tq := fun tq kq => pre136 tq (st137 _ kq)
      obtain ⟨T140, h140, X140, e140, W140, st140⟩ := putF X137 hx hZ hown (host := "") (Or.inl (hw _ (List.mem_of_getElem? (i := 38) rfl))) Via.refl ehq137 f131 f130 (Or.inr ⟨(hw _ (List.mem_of_getElem? (i := 39) rfl)), rfl, hnm⟩) (hw _ (List.mem_of_getElem? (i := 2) rfl)) (ty := .long) (by decide) rfl rfl (g := (mkF m 89 #[.val (.ref a1), .val (.double d2), .second, .val (.int (0 : Int32)), .val (.long r6), .second, .val (.int (1 : Int32))] [(.long r138), (.ref a1)])) rfl rfl (hb hby d1_89)
      have pre141 : ∀ tq, Steps p.tables e below (T140.setTop (mkF m 92 #[.val (.ref a1), .val (.double d2), .second, .val (.int (0 : Int32)), .val (.long r6), .second, .val (.int (1 : Int32))] [])) tq → Steps p.tables e below (s₁.setTop (entryFrame m #[(.ref a1), (.double d2), (.int (0 : Int32))] 7)) tq := fun tq kq => pre139 tq (st140 _ kq)
      have N140 := Fr.snoc X140 N137 g_a1
      have K140 : Keep h0 h140 [a1] := Keep.wr K128 W140 (Or.inl (List.mem_of_getElem? (i := 0) rfl))
      have f142 := f130.wr W140
      have f143 := f132.other W140 (Or.inr (slot_ne (Or.inr (hw _ (List.mem_of_getElem? (i := 41) rfl))) (Or.inr (hw _ (List.mem_of_getElem? (i := 39) rfl))) (by decide) (t := .boolean) (t' := .long) (by decide) (by decide)))
      have f144 := f133.wr W140
      have f145 := f134.other W140 (Ne.symm ne_a1_sF)
      have f146 := f135.other W140 (Or.inr (slot_ne (Or.inr (hw _ (List.mem_of_getElem? (i := 37) rfl))) (Or.inr (hw _ (List.mem_of_getElem? (i := 39) rfl))) (by decide) (t := .long) (t' := .long) (by decide) (by decide)))
      have f147 := f131.same W140
      obtain ⟨v148, hj149, pre149⟩ : ∃ v148 : Int32, (((r6 &&& (1 : Int64)) = (0 : Int64) ∧ v148 = (1 : Int32)) ∨ (¬ ((r6 &&& (1 : Int64)) = (0 : Int64)) ∧ v148 = (0 : Int32))) ∧ (∀ tq, Steps p.tables e below (T140.setTop (mkF m 107 #[.val (.ref a1), .val (.double d2), .second, .val (.int (0 : Int32)), .val (.long r6), .second, .val (.int (1 : Int32))] [(.int v148), (.ref a1)])) tq → Steps p.tables e below (s₁.setTop (entryFrame m #[(.ref a1), (.double d2), (.int (0 : Int32))] 7)) tq) := by
        by_cases hb0_99 : (r6 &&& (1 : Int64)) = (0 : Int64)
        · skip
          refine ⟨(1 : Int32), Or.inl (⟨hb0_99, rfl⟩), fun tq kq => pre141 tq ?_⟩
          show Steps p.tables e below (T140.setTop (mkF m 92 #[.val (.ref a1), .val (.double d2), .second, .val (.int (0 : Int32)), .val (.long r6), .second, .val (.int (1 : Int32))] [])) _
          refine XS.aloadN X140.here hx rfl (hb hby d1_92) rfl rfl ?_
          show Steps p.tables e below (T140.setTop (mkF m 93 #[.val (.ref a1), .val (.double d2), .second, .val (.int (0 : Int32)), .val (.long r6), .second, .val (.int (1 : Int32))] [(.ref a1)])) _
          refine XS.lload X140.here hx rfl (hb hby d1_93) rfl ?_
          show Steps p.tables e below (T140.setTop (mkF m 95 #[.val (.ref a1), .val (.double d2), .second, .val (.int (0 : Int32)), .val (.long r6), .second, .val (.int (1 : Int32))] [(.long r6), (.ref a1)])) _
          refine XS.lconst X140.here hx rfl (hb hby d1_95) ?_
          show Steps p.tables e below (T140.setTop (mkF m 96 #[.val (.ref a1), .val (.double d2), .second, .val (.int (0 : Int32)), .val (.long r6), .second, .val (.int (1 : Int32))] [(.long (1 : Int64)), (.long r6), (.ref a1)])) _
          refine XS.land X140.here hx rfl (hb hby d1_96) rfl ?_
          show Steps p.tables e below (T140.setTop (mkF m 97 #[.val (.ref a1), .val (.double d2), .second, .val (.int (0 : Int32)), .val (.long r6), .second, .val (.int (1 : Int32))] [(.long (r6 &&& (1 : Int64))), (.ref a1)])) _
          refine XS.lconst X140.here hx rfl (hb hby d1_97) ?_
          show Steps p.tables e below (T140.setTop (mkF m 98 #[.val (.ref a1), .val (.double d2), .second, .val (.int (0 : Int32)), .val (.long r6), .second, .val (.int (1 : Int32))] [(.long (0 : Int64)), (.long (r6 &&& (1 : Int64))), (.ref a1)])) _
          refine XS.lcmp X140.here hx rfl (hb hby d1_98) rfl ?_
          show Steps p.tables e below (T140.setTop (mkF m 99 #[.val (.ref a1), .val (.double d2), .second, .val (.int (0 : Int32)), .val (.long r6), .second, .val (.int (1 : Int32))] [(.int (lcmpW (r6 &&& (1 : Int64)) (0 : Int64))), (.ref a1)])) _
          refine XS.ifNo X140.here hx rfl (hb hby d1_99) rfl (jteq hb0_99).2 ?_
          show Steps p.tables e below (T140.setTop (mkF m 102 #[.val (.ref a1), .val (.double d2), .second, .val (.int (0 : Int32)), .val (.long r6), .second, .val (.int (1 : Int32))] [(.ref a1)])) _
          refine XS.iconst X140.here hx rfl (hb hby d1_102) ?_
          show Steps p.tables e below (T140.setTop (mkF m 103 #[.val (.ref a1), .val (.double d2), .second, .val (.int (0 : Int32)), .val (.long r6), .second, .val (.int (1 : Int32))] [(.int (1 : Int32)), (.ref a1)])) _
          refine XS.goto X140.here hx rfl (pc0 := 103) (pc' := 107) rfl (hb hby d1_103) (by decide) (by decide) ?_
          exact kq
        · skip
          refine ⟨(0 : Int32), Or.inr (⟨hb0_99, rfl⟩), fun tq kq => pre141 tq ?_⟩
          show Steps p.tables e below (T140.setTop (mkF m 92 #[.val (.ref a1), .val (.double d2), .second, .val (.int (0 : Int32)), .val (.long r6), .second, .val (.int (1 : Int32))] [])) _
          refine XS.aloadN X140.here hx rfl (hb hby d1_92) rfl rfl ?_
          show Steps p.tables e below (T140.setTop (mkF m 93 #[.val (.ref a1), .val (.double d2), .second, .val (.int (0 : Int32)), .val (.long r6), .second, .val (.int (1 : Int32))] [(.ref a1)])) _
          refine XS.lload X140.here hx rfl (hb hby d1_93) rfl ?_
          show Steps p.tables e below (T140.setTop (mkF m 95 #[.val (.ref a1), .val (.double d2), .second, .val (.int (0 : Int32)), .val (.long r6), .second, .val (.int (1 : Int32))] [(.long r6), (.ref a1)])) _
          refine XS.lconst X140.here hx rfl (hb hby d1_95) ?_
          show Steps p.tables e below (T140.setTop (mkF m 96 #[.val (.ref a1), .val (.double d2), .second, .val (.int (0 : Int32)), .val (.long r6), .second, .val (.int (1 : Int32))] [(.long (1 : Int64)), (.long r6), (.ref a1)])) _
          refine XS.land X140.here hx rfl (hb hby d1_96) rfl ?_
          show Steps p.tables e below (T140.setTop (mkF m 97 #[.val (.ref a1), .val (.double d2), .second, .val (.int (0 : Int32)), .val (.long r6), .second, .val (.int (1 : Int32))] [(.long (r6 &&& (1 : Int64))), (.ref a1)])) _
          refine XS.lconst X140.here hx rfl (hb hby d1_97) ?_
          show Steps p.tables e below (T140.setTop (mkF m 98 #[.val (.ref a1), .val (.double d2), .second, .val (.int (0 : Int32)), .val (.long r6), .second, .val (.int (1 : Int32))] [(.long (0 : Int64)), (.long (r6 &&& (1 : Int64))), (.ref a1)])) _
          refine XS.lcmp X140.here hx rfl (hb hby d1_98) rfl ?_
          show Steps p.tables e below (T140.setTop (mkF m 99 #[.val (.ref a1), .val (.double d2), .second, .val (.int (0 : Int32)), .val (.long r6), .second, .val (.int (1 : Int32))] [(.int (lcmpW (r6 &&& (1 : Int64)) (0 : Int64))), (.ref a1)])) _
          refine XS.ifYes X140.here hx rfl (pc0 := 99) (pc' := 106) rfl (hb hby d1_99) rfl (jfeq hb0_99).2 (by decide) (by decide) ?_
          show Steps p.tables e below (T140.setTop (mkF m 106 #[.val (.ref a1), .val (.double d2), .second, .val (.int (0 : Int32)), .val (.long r6), .second, .val (.int (1 : Int32))] [(.ref a1)])) _
          refine XS.iconst X140.here hx rfl (hb hby d1_106) ?_
          exact kq
      obtain ⟨T150, h150, X150, e150, W150, st150⟩ := putFN X140 hx hZ hown (hw _ (List.mem_of_getElem? (i := 40) rfl)) Via.refl e140 f143 f142 (Or.inr ⟨(hw _ (List.mem_of_getElem? (i := 41) rfl)), rfl, hnm⟩) (hw _ (List.mem_of_getElem? (i := 2) rfl)) (ty := .boolean) (v' := (.int (nar .boolean v148))) (by decide) rfl (fits_nar_bool _) (g := (mkF m 107 #[.val (.ref a1), .val (.double d2), .second, .val (.int (0 : Int32)), .val (.long r6), .second, .val (.int (1 : Int32))] [(.int v148), (.ref a1)])) rfl rfl (hb hby d1_107)
      have pre151 : ∀ tq, Steps p.tables e below (T150.setTop (mkF m 110 #[.val (.ref a1), .val (.double d2), .second, .val (.int (0 : Int32)), .val (.long r6), .second, .val (.int (1 : Int32))] [])) tq → Steps p.tables e below (s₁.setTop (entryFrame m #[(.ref a1), (.double d2), (.int (0 : Int32))] 7)) tq := fun tq kq => pre149 tq (st150 _ kq)
      have N150 := Fr.snoc X150 N140 g_a1
      have K150 : Keep h0 h150 [a1] := Keep.wr K140 W150 (Or.inl (List.mem_of_getElem? (i := 0) rfl))
      have f152 := f142.wr W150
      have f153 := f144.wr W150
      have f154 := f145.other W150 (Ne.symm ne_a1_sF)
      have f155 := f146.other W150 (Or.inr (slot_ne (Or.inr (hw _ (List.mem_of_getElem? (i := 37) rfl))) (Or.inr (hw _ (List.mem_of_getElem? (i := 41) rfl))) (by decide) (t := .long) (t' := .boolean) (by decide) (by decide)))
      have f156 := f147.other W150 (Or.inr (slot_ne (Or.inr (hw _ (List.mem_of_getElem? (i := 39) rfl))) (Or.inr (hw _ (List.mem_of_getElem? (i := 41) rfl))) (by decide) (t := .long) (t' := .boolean) (by decide) (by decide)))
      have f157 := f143.same W150
      obtain ⟨fs, hr, hrun, hended, hW, hsame⟩ := X150.leave (v := none) (fun _ => rfl)
      refine ⟨_, _, pre151 _ ?_, hrun, hended, _, _, rfl, ?_, ⟨_, rfl⟩, hW, hsame.mono (by decide) (by decide)⟩
      · skip
        show Steps p.tables e below (T150.setTop (mkF m 110 #[.val (.ref a1), .val (.double d2), .second, .val (.int (0 : Int32)), .val (.long r6), .second, .val (.int (1 : Int32))] [])) _
        exact X150.returnOut hx Bd.returns (hb hby d1_110) hr
      · show Q1 Z a1 d2 mm ee sF kF h0 n0 _ T150.heap _
        rw [e150]
        refine ⟨r126, r138, (nar .boolean v148), rfl, N150, K150, f155, f156, f157, ?_⟩
        rw [own_v2p hq5 hbt.2.1 hbt.2.2.1] at hq137
        rw [own_v2 hq5 hbt.2.1 hbt.2.2.1] at hq125
        have gh : mm ≠ 4503599627370496 := fun z => hc23 ((own_gh hq5).mpr z)
        have ht : (1 : Int32).toInt = (ee : Int) := hq9
        have hz : (1 : Int32).toInt = 1 := by decide
        have he : ee = 1 := by omega
        subst he
        refine ⟨Or.inr ⟨gh, by omega⟩, by omega, own_gn hq5 hj149⟩
  · skip
    have pre158 : ∀ tq, Steps p.tables e below (T9.setTop (mkF m 23 #[.val (.ref a1), .val (.double d2), .second, .val (.int (0 : Int32)), .val (.long r6), .second, .val (.int r10)] [(.int (lcmpW r6 (4503599627370496 : Int64))), (.ref a1)])) tq → Steps p.tables e below (s₁.setTop (entryFrame m #[(.ref a1), (.double d2), (.int (0 : Int32))] 7)) tq := by
      refine fun tq kq => pre11 tq ?_
      show Steps p.tables e below (T9.setTop (mkF m 14 #[.val (.ref a1), .val (.double d2), .second, .val (.int (0 : Int32)), .val (.long r6), .second, .unset] [(.int r10)])) _
      refine XS.istore X9.here hx rfl (hb hby d1_14) rfl (l' := #[.val (.ref a1), .val (.double d2), .second, .val (.int (0 : Int32)), .val (.long r6), .second, .val (.int r10)]) rfl ?_
      show Steps p.tables e below (T9.setTop (mkF m 16 #[.val (.ref a1), .val (.double d2), .second, .val (.int (0 : Int32)), .val (.long r6), .second, .val (.int r10)] [])) _
      refine XS.aloadN X9.here hx rfl (hb hby d1_16) rfl rfl ?_
      show Steps p.tables e below (T9.setTop (mkF m 17 #[.val (.ref a1), .val (.double d2), .second, .val (.int (0 : Int32)), .val (.long r6), .second, .val (.int r10)] [(.ref a1)])) _
      refine XS.lload X9.here hx rfl (hb hby d1_17) rfl ?_
      show Steps p.tables e below (T9.setTop (mkF m 19 #[.val (.ref a1), .val (.double d2), .second, .val (.int (0 : Int32)), .val (.long r6), .second, .val (.int r10)] [(.long r6), (.ref a1)])) _
      refine X9.ldc2Long hx hown (mvT hZ (hw _ (List.mem_of_getElem? (i := 18) rfl))) (g := (mkF m 19 #[.val (.ref a1), .val (.double d2), .second, .val (.int (0 : Int32)), .val (.long r6), .second, .val (.int r10)] [(.long r6), (.ref a1)])) rfl (hb hby d1_19) _ ?_
      show Steps p.tables e below (T9.setTop (mkF m 22 #[.val (.ref a1), .val (.double d2), .second, .val (.int (0 : Int32)), .val (.long r6), .second, .val (.int r10)] [(.long (4503599627370496 : Int64)), (.long r6), (.ref a1)])) _
      refine XS.lcmp X9.here hx rfl (hb hby d1_22) rfl ?_
      exact kq
    by_cases hc23 : r6 = (4503599627370496 : Int64)
    · skip
      have pre159 : ∀ tq, Steps p.tables e below (T9.setTop (mkF m 26 #[.val (.ref a1), .val (.double d2), .second, .val (.int (0 : Int32)), .val (.long r6), .second, .val (.int r10)] [(.ref a1)])) tq → Steps p.tables e below (s₁.setTop (entryFrame m #[(.ref a1), (.double d2), (.int (0 : Int32))] 7)) tq := by
        refine fun tq kq => pre158 tq ?_
        show Steps p.tables e below (T9.setTop (mkF m 23 #[.val (.ref a1), .val (.double d2), .second, .val (.int (0 : Int32)), .val (.long r6), .second, .val (.int r10)] [(.int (lcmpW r6 (4503599627370496 : Int64))), (.ref a1)])) _
        refine XS.ifNo X9.here hx rfl (hb hby d1_23) rfl (jteq hc23).2 ?_
        exact kq
      have hc31 : (-1074 : Int32) < r10 := by (rw [Int32.lt_iff_toInt_lt, show (-1074 : Int32).toInt = -1074 from by decide]; omega)
      have pre160 : ∀ tq, Steps p.tables e below (T9.setTop (mkF m 34 #[.val (.ref a1), .val (.double d2), .second, .val (.int (0 : Int32)), .val (.long r6), .second, .val (.int r10)] [(.ref a1)])) tq → Steps p.tables e below (s₁.setTop (entryFrame m #[(.ref a1), (.double d2), (.int (0 : Int32))] 7)) tq := by
        refine fun tq kq => pre159 tq ?_
        show Steps p.tables e below (T9.setTop (mkF m 26 #[.val (.ref a1), .val (.double d2), .second, .val (.int (0 : Int32)), .val (.long r6), .second, .val (.int r10)] [(.ref a1)])) _
        refine XS.iload X9.here hx rfl (hb hby d1_26) rfl ?_
        show Steps p.tables e below (T9.setTop (mkF m 28 #[.val (.ref a1), .val (.double d2), .second, .val (.int (0 : Int32)), .val (.long r6), .second, .val (.int r10)] [(.int r10), (.ref a1)])) _
        refine XS.sipush X9.here hx rfl (hb hby d1_28) ?_
        show Steps p.tables e below (T9.setTop (mkF m 31 #[.val (.ref a1), .val (.double d2), .second, .val (.int (0 : Int32)), .val (.long r6), .second, .val (.int r10)] [(.int (-1074 : Int32)), (.int r10), (.ref a1)])) _
        refine XS.icmpNo X9.here hx rfl (hb hby d1_31) rfl (tlt hc31).2.2.2 ?_
        exact kq
      have pre161 : ∀ tq, Steps p.tables e below (T9.setTop (mkF m 47 #[.val (.ref a1), .val (.double d2), .second, .val (.int (0 : Int32)), .val (.long r6), .second, .val (.int r10)] [(.int (0 : Int32)), (.int (r10 - (2 : Int32))), (.long (((4 : Int64) * r6) - (1 : Int64))), (.ref a1)])) tq → Steps p.tables e below (s₁.setTop (entryFrame m #[(.ref a1), (.double d2), (.int (0 : Int32))] 7)) tq := by
        refine fun tq kq => pre160 tq ?_
        show Steps p.tables e below (T9.setTop (mkF m 34 #[.val (.ref a1), .val (.double d2), .second, .val (.int (0 : Int32)), .val (.long r6), .second, .val (.int r10)] [(.ref a1)])) _
        refine X9.ldc2Long hx hown (mvT hZ (hw _ (List.mem_of_getElem? (i := 50) rfl))) (g := (mkF m 34 #[.val (.ref a1), .val (.double d2), .second, .val (.int (0 : Int32)), .val (.long r6), .second, .val (.int r10)] [(.ref a1)])) rfl (hb hby d1_34) _ ?_
        show Steps p.tables e below (T9.setTop (mkF m 37 #[.val (.ref a1), .val (.double d2), .second, .val (.int (0 : Int32)), .val (.long r6), .second, .val (.int r10)] [(.long (4 : Int64)), (.ref a1)])) _
        refine XS.lload X9.here hx rfl (hb hby d1_37) rfl ?_
        show Steps p.tables e below (T9.setTop (mkF m 39 #[.val (.ref a1), .val (.double d2), .second, .val (.int (0 : Int32)), .val (.long r6), .second, .val (.int r10)] [(.long r6), (.long (4 : Int64)), (.ref a1)])) _
        refine XS.lmul X9.here hx rfl (hb hby d1_39) rfl ?_
        show Steps p.tables e below (T9.setTop (mkF m 40 #[.val (.ref a1), .val (.double d2), .second, .val (.int (0 : Int32)), .val (.long r6), .second, .val (.int r10)] [(.long ((4 : Int64) * r6)), (.ref a1)])) _
        refine XS.lconst X9.here hx rfl (hb hby d1_40) ?_
        show Steps p.tables e below (T9.setTop (mkF m 41 #[.val (.ref a1), .val (.double d2), .second, .val (.int (0 : Int32)), .val (.long r6), .second, .val (.int r10)] [(.long (1 : Int64)), (.long ((4 : Int64) * r6)), (.ref a1)])) _
        refine XS.lsub X9.here hx rfl (hb hby d1_41) rfl ?_
        show Steps p.tables e below (T9.setTop (mkF m 42 #[.val (.ref a1), .val (.double d2), .second, .val (.int (0 : Int32)), .val (.long r6), .second, .val (.int r10)] [(.long (((4 : Int64) * r6) - (1 : Int64))), (.ref a1)])) _
        refine XS.iload X9.here hx rfl (hb hby d1_42) rfl ?_
        show Steps p.tables e below (T9.setTop (mkF m 44 #[.val (.ref a1), .val (.double d2), .second, .val (.int (0 : Int32)), .val (.long r6), .second, .val (.int r10)] [(.int r10), (.long (((4 : Int64) * r6) - (1 : Int64))), (.ref a1)])) _
        refine XS.iconst X9.here hx rfl (hb hby d1_44) ?_
        show Steps p.tables e below (T9.setTop (mkF m 45 #[.val (.ref a1), .val (.double d2), .second, .val (.int (0 : Int32)), .val (.long r6), .second, .val (.int r10)] [(.int (2 : Int32)), (.int r10), (.long (((4 : Int64) * r6) - (1 : Int64))), (.ref a1)])) _
        refine XS.isub X9.here hx rfl (hb hby d1_45) rfl ?_
        show Steps p.tables e below (T9.setTop (mkF m 46 #[.val (.ref a1), .val (.double d2), .second, .val (.int (0 : Int32)), .val (.long r6), .second, .val (.int r10)] [(.int (r10 - (2 : Int32))), (.long (((4 : Int64) * r6) - (1 : Int64))), (.ref a1)])) _
        refine XS.iloadN X9.here hx rfl (hb hby d1_46) rfl ?_
        exact kq
      have Z162 : n0 ≤ h0.size := Z0
      obtain ⟨_, _, ⟨T162, L162, k162, n162⟩, -, X162, ⟨Lc162, hQ162, l162, y162, z162⟩, st162⟩ := Jvm.LawKit.callS X9 hx (y := (⟨"com/example/partwise/partwise/storage/DecimalRange", "twiceUnits", "(JII)J"⟩ : MethodName)) hown (mvT hZ (hw _ (List.mem_of_getElem? (i := 27) rfl))) (mvT hZ (hw _ (List.mem_of_getElem? (i := 28) rfl))) (mvT hZ (hw _ (List.mem_of_getElem? (i := 3) rfl))) (mvT hZ (hw _ (List.mem_of_getElem? (i := 29) rfl))) (by decide) (backOf (W := 1) (rm6_ge l Z a0 hw [] (((4 : Int64) * r6) - (1 : Int64)) (r10 - (2 : Int32)) sF kF (ee - 2) h0 n0 Z162 (own_r4 hq5 hbt.2.1 hbt.2.2.1) S_FIVES V_sF (⟨(own_sb (k := 2) hq9 hk hbt.2.2.2 (by decide) (by decide)).1, by omega⟩)) hZ (hw _ (List.mem_of_getElem? (i := 29) rfl)) (hw _ (List.mem_of_getElem? (i := 3) rfl)) (by decide) (by decide)) (g := (mkF m 47 #[.val (.ref a1), .val (.double d2), .second, .val (.int (0 : Int32)), .val (.long r6), .second, .val (.int r10)] [(.int (0 : Int32)), (.int (r10 - (2 : Int32))), (.long (((4 : Int64) * r6) - (1 : Int64))), (.ref a1)])) rfl (by rw [hml]; rfl) (argsL := [(.long (((4 : Int64) * r6) - (1 : Int64))), (.int (r10 - (2 : Int32))), (.int (0 : Int32))]) (rest := [(.ref a1)]) (lenOf pd1_2 rfl) rfl (by show 2 * 0 + _ ≤ _; exact Nat.le_of_eq rfl) (hb hby d1_47) (fun _ _ => ⟨rfl, ehq9, (by decide : ((0 + 0) + 0) + 0 ≤ _), (by decide : ((0 + 0) + 0) + 0 ≤ _)⟩)
      dsimp only [Pt.U, Pt.locs, Pt.cells, Pt.slots] at X162 l162 y162 z162 st162 hQ162
      subst l162 y162 z162
      obtain ⟨r163, rfl, Nq162, ehq162, hq162⟩ := hQ162
      have N162 := Fr.app N9 Nq162
      have pre164 : ∀ tq, Steps p.tables e below (T162.setTop (mkF m 50 #[.val (.ref a1), .val (.double d2), .second, .val (.int (0 : Int32)), .val (.long r6), .second, .val (.int r10)] [(.long r163), (.ref a1)])) tq → Steps p.tables e below (s₁.setTop (entryFrame m #[(.ref a1), (.double d2), (.int (0 : Int32))] 7)) tq := fun tq kq => pre161 tq (st162 _ kq)
      have pre165 : ∀ tq, Steps p.tables e below (T162.setTop (mkF m 69 #[.val (.ref a1), .val (.double d2), .second, .val (.int (0 : Int32)), .val (.long r6), .second, .val (.int r10)] [(.long r163), (.ref a1)])) tq → Steps p.tables e below (s₁.setTop (entryFrame m #[(.ref a1), (.double d2), (.int (0 : Int32))] 7)) tq := by
        refine fun tq kq => pre164 tq ?_
        show Steps p.tables e below (T162.setTop (mkF m 50 #[.val (.ref a1), .val (.double d2), .second, .val (.int (0 : Int32)), .val (.long r6), .second, .val (.int r10)] [(.long r163), (.ref a1)])) _
        refine XS.goto X162.here hx rfl (pc0 := 50) (pc' := 69) rfl (hb hby d1_50) (by decide) (by decide) ?_
        exact kq
      obtain ⟨T166, h166, X166, e166, W166, st166⟩ := putF X162 hx hZ hown (host := "") (Or.inl (hw _ (List.mem_of_getElem? (i := 36) rfl))) Via.refl ehq162 F_twiceBelow_a1 E_a1 (Or.inr ⟨(hw _ (List.mem_of_getElem? (i := 37) rfl)), rfl, hnm⟩) (hw _ (List.mem_of_getElem? (i := 2) rfl)) (ty := .long) (by decide) rfl rfl (g := (mkF m 69 #[.val (.ref a1), .val (.double d2), .second, .val (.int (0 : Int32)), .val (.long r6), .second, .val (.int r10)] [(.long r163), (.ref a1)])) rfl rfl (hb hby d1_69)
      have pre167 : ∀ tq, Steps p.tables e below (T166.setTop (mkF m 72 #[.val (.ref a1), .val (.double d2), .second, .val (.int (0 : Int32)), .val (.long r6), .second, .val (.int r10)] [])) tq → Steps p.tables e below (s₁.setTop (entryFrame m #[(.ref a1), (.double d2), (.int (0 : Int32))] 7)) tq := fun tq kq => pre165 tq (st166 _ kq)
      have N166 := Fr.snoc X166 N162 g_a1
      have K166 : Keep h0 h166 [a1] := Keep.wr (Keep.refl h0 [a1]) W166 (Or.inl (List.mem_of_getElem? (i := 0) rfl))
      have f168 := E_a1.wr W166
      have f169 := F_twiceAbove_a1.other W166 (Or.inr (slot_ne (Or.inr (hw _ (List.mem_of_getElem? (i := 39) rfl))) (Or.inr (hw _ (List.mem_of_getElem? (i := 37) rfl))) (by decide) (t := .long) (t' := .long) (by decide) (by decide)))
      have f170 := F_halfwayIncluded_a1.other W166 (Or.inr (slot_ne (Or.inr (hw _ (List.mem_of_getElem? (i := 41) rfl))) (Or.inr (hw _ (List.mem_of_getElem? (i := 37) rfl))) (by decide) (t := .boolean) (t' := .long) (by decide) (by decide)))
      have f171 := S_FIVES.wr W166
      have f172 := V_sF.other W166 (Ne.symm ne_a1_sF)
      have f173 := F_twiceBelow_a1.same W166
      have pre174 : ∀ tq, Steps p.tables e below (T166.setTop (mkF m 86 #[.val (.ref a1), .val (.double d2), .second, .val (.int (0 : Int32)), .val (.long r6), .second, .val (.int r10)] [(.int (0 : Int32)), (.int (r10 - (1 : Int32))), (.long (((2 : Int64) * r6) + (1 : Int64))), (.ref a1)])) tq → Steps p.tables e below (s₁.setTop (entryFrame m #[(.ref a1), (.double d2), (.int (0 : Int32))] 7)) tq := by
        refine fun tq kq => pre167 tq ?_
        show Steps p.tables e below (T166.setTop (mkF m 72 #[.val (.ref a1), .val (.double d2), .second, .val (.int (0 : Int32)), .val (.long r6), .second, .val (.int r10)] [])) _
        refine XS.aloadN X166.here hx rfl (hb hby d1_72) rfl rfl ?_
        show Steps p.tables e below (T166.setTop (mkF m 73 #[.val (.ref a1), .val (.double d2), .second, .val (.int (0 : Int32)), .val (.long r6), .second, .val (.int r10)] [(.ref a1)])) _
        refine X166.ldc2Long hx hown (mvT hZ (hw _ (List.mem_of_getElem? (i := 26) rfl))) (g := (mkF m 73 #[.val (.ref a1), .val (.double d2), .second, .val (.int (0 : Int32)), .val (.long r6), .second, .val (.int r10)] [(.ref a1)])) rfl (hb hby d1_73) _ ?_
        show Steps p.tables e below (T166.setTop (mkF m 76 #[.val (.ref a1), .val (.double d2), .second, .val (.int (0 : Int32)), .val (.long r6), .second, .val (.int r10)] [(.long (2 : Int64)), (.ref a1)])) _
        refine XS.lload X166.here hx rfl (hb hby d1_76) rfl ?_
        show Steps p.tables e below (T166.setTop (mkF m 78 #[.val (.ref a1), .val (.double d2), .second, .val (.int (0 : Int32)), .val (.long r6), .second, .val (.int r10)] [(.long r6), (.long (2 : Int64)), (.ref a1)])) _
        refine XS.lmul X166.here hx rfl (hb hby d1_78) rfl ?_
        show Steps p.tables e below (T166.setTop (mkF m 79 #[.val (.ref a1), .val (.double d2), .second, .val (.int (0 : Int32)), .val (.long r6), .second, .val (.int r10)] [(.long ((2 : Int64) * r6)), (.ref a1)])) _
        refine XS.lconst X166.here hx rfl (hb hby d1_79) ?_
        show Steps p.tables e below (T166.setTop (mkF m 80 #[.val (.ref a1), .val (.double d2), .second, .val (.int (0 : Int32)), .val (.long r6), .second, .val (.int r10)] [(.long (1 : Int64)), (.long ((2 : Int64) * r6)), (.ref a1)])) _
        refine XS.ladd X166.here hx rfl (hb hby d1_80) rfl ?_
        show Steps p.tables e below (T166.setTop (mkF m 81 #[.val (.ref a1), .val (.double d2), .second, .val (.int (0 : Int32)), .val (.long r6), .second, .val (.int r10)] [(.long (((2 : Int64) * r6) + (1 : Int64))), (.ref a1)])) _
        refine XS.iload X166.here hx rfl (hb hby d1_81) rfl ?_
        show Steps p.tables e below (T166.setTop (mkF m 83 #[.val (.ref a1), .val (.double d2), .second, .val (.int (0 : Int32)), .val (.long r6), .second, .val (.int r10)] [(.int r10), (.long (((2 : Int64) * r6) + (1 : Int64))), (.ref a1)])) _
        refine XS.iconst X166.here hx rfl (hb hby d1_83) ?_
        show Steps p.tables e below (T166.setTop (mkF m 84 #[.val (.ref a1), .val (.double d2), .second, .val (.int (0 : Int32)), .val (.long r6), .second, .val (.int r10)] [(.int (1 : Int32)), (.int r10), (.long (((2 : Int64) * r6) + (1 : Int64))), (.ref a1)])) _
        refine XS.isub X166.here hx rfl (hb hby d1_84) rfl ?_
        show Steps p.tables e below (T166.setTop (mkF m 85 #[.val (.ref a1), .val (.double d2), .second, .val (.int (0 : Int32)), .val (.long r6), .second, .val (.int r10)] [(.int (r10 - (1 : Int32))), (.long (((2 : Int64) * r6) + (1 : Int64))), (.ref a1)])) _
        refine XS.iloadN X166.here hx rfl (hb hby d1_85) rfl ?_
        exact kq
      have Z175 : n0 ≤ h166.size := (Nat.le_trans Z0 (Keep.of_wr W166).1)
      obtain ⟨_, _, ⟨T175, L175, k175, n175⟩, -, X175, ⟨Lc175, hQ175, l175, y175, z175⟩, st175⟩ := Jvm.LawKit.callS X166 hx (y := (⟨"com/example/partwise/partwise/storage/DecimalRange", "twiceUnits", "(JII)J"⟩ : MethodName)) hown (mvT hZ (hw _ (List.mem_of_getElem? (i := 27) rfl))) (mvT hZ (hw _ (List.mem_of_getElem? (i := 28) rfl))) (mvT hZ (hw _ (List.mem_of_getElem? (i := 3) rfl))) (mvT hZ (hw _ (List.mem_of_getElem? (i := 29) rfl))) (by decide) (backOf (W := 1) (rm6_ge l Z a0 hw [] (((2 : Int64) * r6) + (1 : Int64)) (r10 - (1 : Int32)) sF kF (ee - 1) h166 n0 Z175 (own_r2p hq5 hbt.2.1 hbt.2.2.1) f171 f172 (⟨(own_sb (k := 1) hq9 hk hbt.2.2.2 (by decide) (by decide)).1, by omega⟩)) hZ (hw _ (List.mem_of_getElem? (i := 29) rfl)) (hw _ (List.mem_of_getElem? (i := 3) rfl)) (by decide) (by decide)) (g := (mkF m 86 #[.val (.ref a1), .val (.double d2), .second, .val (.int (0 : Int32)), .val (.long r6), .second, .val (.int r10)] [(.int (0 : Int32)), (.int (r10 - (1 : Int32))), (.long (((2 : Int64) * r6) + (1 : Int64))), (.ref a1)])) rfl (by rw [hml]; rfl) (argsL := [(.long (((2 : Int64) * r6) + (1 : Int64))), (.int (r10 - (1 : Int32))), (.int (0 : Int32))]) (rest := [(.ref a1)]) (lenOf pd1_2 rfl) rfl (by show 2 * 0 + _ ≤ _; exact Nat.le_of_eq rfl) (hb hby d1_86) (fun _ _ => ⟨rfl, e166, (by decide : (((0 + 0) + 0) + 0) + 0 ≤ _), (by decide : (((0 + 0) + 0) + 0) + 0 ≤ _)⟩)
      dsimp only [Pt.U, Pt.locs, Pt.cells, Pt.slots] at X175 l175 y175 z175 st175 hQ175
      subst l175 y175 z175
      obtain ⟨r176, rfl, Nq175, ehq175, hq175⟩ := hQ175
      have N175 := Fr.app N166 Nq175
      have pre177 : ∀ tq, Steps p.tables e below (T175.setTop (mkF m 89 #[.val (.ref a1), .val (.double d2), .second, .val (.int (0 : Int32)), .val (.long r6), .second, .val (.int r10)] [(.long r176), (.ref a1)])) tq → Steps p.tables e below (s₁.setTop (entryFrame m #[(.ref a1), (.double d2), (.int (0 : Int32))] 7)) tq := fun tq kq => pre174 tq (st175 _ kq)
      obtain ⟨T178, h178, X178, e178, W178, st178⟩ := putF X175 hx hZ hown (host := "") (Or.inl (hw _ (List.mem_of_getElem? (i := 38) rfl))) Via.refl ehq175 f169 f168 (Or.inr ⟨(hw _ (List.mem_of_getElem? (i := 39) rfl)), rfl, hnm⟩) (hw _ (List.mem_of_getElem? (i := 2) rfl)) (ty := .long) (by decide) rfl rfl (g := (mkF m 89 #[.val (.ref a1), .val (.double d2), .second, .val (.int (0 : Int32)), .val (.long r6), .second, .val (.int r10)] [(.long r176), (.ref a1)])) rfl rfl (hb hby d1_89)
      have pre179 : ∀ tq, Steps p.tables e below (T178.setTop (mkF m 92 #[.val (.ref a1), .val (.double d2), .second, .val (.int (0 : Int32)), .val (.long r6), .second, .val (.int r10)] [])) tq → Steps p.tables e below (s₁.setTop (entryFrame m #[(.ref a1), (.double d2), (.int (0 : Int32))] 7)) tq := fun tq kq => pre177 tq (st178 _ kq)
      have N178 := Fr.snoc X178 N175 g_a1
      have K178 : Keep h0 h178 [a1] := Keep.wr K166 W178 (Or.inl (List.mem_of_getElem? (i := 0) rfl))
      have f180 := f168.wr W178
      have f181 := f170.other W178 (Or.inr (slot_ne (Or.inr (hw _ (List.mem_of_getElem? (i := 41) rfl))) (Or.inr (hw _ (List.mem_of_getElem? (i := 39) rfl))) (by decide) (t := .boolean) (t' := .long) (by decide) (by decide)))
      have f182 := f171.wr W178
      have f183 := f172.other W178 (Ne.symm ne_a1_sF)
      have f184 := f173.other W178 (Or.inr (slot_ne (Or.inr (hw _ (List.mem_of_getElem? (i := 37) rfl))) (Or.inr (hw _ (List.mem_of_getElem? (i := 39) rfl))) (by decide) (t := .long) (t' := .long) (by decide) (by decide)))
      have f185 := f169.same W178
      obtain ⟨v186, hj187, pre187⟩ : ∃ v186 : Int32, (((r6 &&& (1 : Int64)) = (0 : Int64) ∧ v186 = (1 : Int32)) ∨ (¬ ((r6 &&& (1 : Int64)) = (0 : Int64)) ∧ v186 = (0 : Int32))) ∧ (∀ tq, Steps p.tables e below (T178.setTop (mkF m 107 #[.val (.ref a1), .val (.double d2), .second, .val (.int (0 : Int32)), .val (.long r6), .second, .val (.int r10)] [(.int v186), (.ref a1)])) tq → Steps p.tables e below (s₁.setTop (entryFrame m #[(.ref a1), (.double d2), (.int (0 : Int32))] 7)) tq) := by
        by_cases hb0_99 : (r6 &&& (1 : Int64)) = (0 : Int64)
        · skip
          refine ⟨(1 : Int32), Or.inl (⟨hb0_99, rfl⟩), fun tq kq => pre179 tq ?_⟩
          show Steps p.tables e below (T178.setTop (mkF m 92 #[.val (.ref a1), .val (.double d2), .second, .val (.int (0 : Int32)), .val (.long r6), .second, .val (.int r10)] [])) _
          refine XS.aloadN X178.here hx rfl (hb hby d1_92) rfl rfl ?_
          show Steps p.tables e below (T178.setTop (mkF m 93 #[.val (.ref a1), .val (.double d2), .second, .val (.int (0 : Int32)), .val (.long r6), .second, .val (.int r10)] [(.ref a1)])) _
          refine XS.lload X178.here hx rfl (hb hby d1_93) rfl ?_
          show Steps p.tables e below (T178.setTop (mkF m 95 #[.val (.ref a1), .val (.double d2), .second, .val (.int (0 : Int32)), .val (.long r6), .second, .val (.int r10)] [(.long r6), (.ref a1)])) _
          refine XS.lconst X178.here hx rfl (hb hby d1_95) ?_
          show Steps p.tables e below (T178.setTop (mkF m 96 #[.val (.ref a1), .val (.double d2), .second, .val (.int (0 : Int32)), .val (.long r6), .second, .val (.int r10)] [(.long (1 : Int64)), (.long r6), (.ref a1)])) _
          refine XS.land X178.here hx rfl (hb hby d1_96) rfl ?_
          show Steps p.tables e below (T178.setTop (mkF m 97 #[.val (.ref a1), .val (.double d2), .second, .val (.int (0 : Int32)), .val (.long r6), .second, .val (.int r10)] [(.long (r6 &&& (1 : Int64))), (.ref a1)])) _
          refine XS.lconst X178.here hx rfl (hb hby d1_97) ?_
          show Steps p.tables e below (T178.setTop (mkF m 98 #[.val (.ref a1), .val (.double d2), .second, .val (.int (0 : Int32)), .val (.long r6), .second, .val (.int r10)] [(.long (0 : Int64)), (.long (r6 &&& (1 : Int64))), (.ref a1)])) _
          refine XS.lcmp X178.here hx rfl (hb hby d1_98) rfl ?_
          show Steps p.tables e below (T178.setTop (mkF m 99 #[.val (.ref a1), .val (.double d2), .second, .val (.int (0 : Int32)), .val (.long r6), .second, .val (.int r10)] [(.int (lcmpW (r6 &&& (1 : Int64)) (0 : Int64))), (.ref a1)])) _
          refine XS.ifNo X178.here hx rfl (hb hby d1_99) rfl (jteq hb0_99).2 ?_
          show Steps p.tables e below (T178.setTop (mkF m 102 #[.val (.ref a1), .val (.double d2), .second, .val (.int (0 : Int32)), .val (.long r6), .second, .val (.int r10)] [(.ref a1)])) _
          refine XS.iconst X178.here hx rfl (hb hby d1_102) ?_
          show Steps p.tables e below (T178.setTop (mkF m 103 #[.val (.ref a1), .val (.double d2), .second, .val (.int (0 : Int32)), .val (.long r6), .second, .val (.int r10)] [(.int (1 : Int32)), (.ref a1)])) _
          refine XS.goto X178.here hx rfl (pc0 := 103) (pc' := 107) rfl (hb hby d1_103) (by decide) (by decide) ?_
          exact kq
        · skip
          refine ⟨(0 : Int32), Or.inr (⟨hb0_99, rfl⟩), fun tq kq => pre179 tq ?_⟩
          show Steps p.tables e below (T178.setTop (mkF m 92 #[.val (.ref a1), .val (.double d2), .second, .val (.int (0 : Int32)), .val (.long r6), .second, .val (.int r10)] [])) _
          refine XS.aloadN X178.here hx rfl (hb hby d1_92) rfl rfl ?_
          show Steps p.tables e below (T178.setTop (mkF m 93 #[.val (.ref a1), .val (.double d2), .second, .val (.int (0 : Int32)), .val (.long r6), .second, .val (.int r10)] [(.ref a1)])) _
          refine XS.lload X178.here hx rfl (hb hby d1_93) rfl ?_
          show Steps p.tables e below (T178.setTop (mkF m 95 #[.val (.ref a1), .val (.double d2), .second, .val (.int (0 : Int32)), .val (.long r6), .second, .val (.int r10)] [(.long r6), (.ref a1)])) _
          refine XS.lconst X178.here hx rfl (hb hby d1_95) ?_
          show Steps p.tables e below (T178.setTop (mkF m 96 #[.val (.ref a1), .val (.double d2), .second, .val (.int (0 : Int32)), .val (.long r6), .second, .val (.int r10)] [(.long (1 : Int64)), (.long r6), (.ref a1)])) _
          refine XS.land X178.here hx rfl (hb hby d1_96) rfl ?_
          show Steps p.tables e below (T178.setTop (mkF m 97 #[.val (.ref a1), .val (.double d2), .second, .val (.int (0 : Int32)), .val (.long r6), .second, .val (.int r10)] [(.long (r6 &&& (1 : Int64))), (.ref a1)])) _
          refine XS.lconst X178.here hx rfl (hb hby d1_97) ?_
          show Steps p.tables e below (T178.setTop (mkF m 98 #[.val (.ref a1), .val (.double d2), .second, .val (.int (0 : Int32)), .val (.long r6), .second, .val (.int r10)] [(.long (0 : Int64)), (.long (r6 &&& (1 : Int64))), (.ref a1)])) _
          refine XS.lcmp X178.here hx rfl (hb hby d1_98) rfl ?_
          show Steps p.tables e below (T178.setTop (mkF m 99 #[.val (.ref a1), .val (.double d2), .second, .val (.int (0 : Int32)), .val (.long r6), .second, .val (.int r10)] [(.int (lcmpW (r6 &&& (1 : Int64)) (0 : Int64))), (.ref a1)])) _
          refine XS.ifYes X178.here hx rfl (pc0 := 99) (pc' := 106) rfl (hb hby d1_99) rfl (jfeq hb0_99).2 (by decide) (by decide) ?_
          show Steps p.tables e below (T178.setTop (mkF m 106 #[.val (.ref a1), .val (.double d2), .second, .val (.int (0 : Int32)), .val (.long r6), .second, .val (.int r10)] [(.ref a1)])) _
          refine XS.iconst X178.here hx rfl (hb hby d1_106) ?_
          exact kq
      obtain ⟨T188, h188, X188, e188, W188, st188⟩ := putFN X178 hx hZ hown (hw _ (List.mem_of_getElem? (i := 40) rfl)) Via.refl e178 f181 f180 (Or.inr ⟨(hw _ (List.mem_of_getElem? (i := 41) rfl)), rfl, hnm⟩) (hw _ (List.mem_of_getElem? (i := 2) rfl)) (ty := .boolean) (v' := (.int (nar .boolean v186))) (by decide) rfl (fits_nar_bool _) (g := (mkF m 107 #[.val (.ref a1), .val (.double d2), .second, .val (.int (0 : Int32)), .val (.long r6), .second, .val (.int r10)] [(.int v186), (.ref a1)])) rfl rfl (hb hby d1_107)
      have pre189 : ∀ tq, Steps p.tables e below (T188.setTop (mkF m 110 #[.val (.ref a1), .val (.double d2), .second, .val (.int (0 : Int32)), .val (.long r6), .second, .val (.int r10)] [])) tq → Steps p.tables e below (s₁.setTop (entryFrame m #[(.ref a1), (.double d2), (.int (0 : Int32))] 7)) tq := fun tq kq => pre187 tq (st188 _ kq)
      have N188 := Fr.snoc X188 N178 g_a1
      have K188 : Keep h0 h188 [a1] := Keep.wr K178 W188 (Or.inl (List.mem_of_getElem? (i := 0) rfl))
      have f190 := f180.wr W188
      have f191 := f182.wr W188
      have f192 := f183.other W188 (Ne.symm ne_a1_sF)
      have f193 := f184.other W188 (Or.inr (slot_ne (Or.inr (hw _ (List.mem_of_getElem? (i := 37) rfl))) (Or.inr (hw _ (List.mem_of_getElem? (i := 41) rfl))) (by decide) (t := .long) (t' := .boolean) (by decide) (by decide)))
      have f194 := f185.other W188 (Or.inr (slot_ne (Or.inr (hw _ (List.mem_of_getElem? (i := 39) rfl))) (Or.inr (hw _ (List.mem_of_getElem? (i := 41) rfl))) (by decide) (t := .long) (t' := .boolean) (by decide) (by decide)))
      have f195 := f181.same W188
      obtain ⟨fs, hr, hrun, hended, hW, hsame⟩ := X188.leave (v := none) (fun _ => rfl)
      refine ⟨_, _, pre189 _ ?_, hrun, hended, _, _, rfl, ?_, ⟨_, rfl⟩, hW, hsame.mono (by decide) (by decide)⟩
      · skip
        show Steps p.tables e below (T188.setTop (mkF m 110 #[.val (.ref a1), .val (.double d2), .second, .val (.int (0 : Int32)), .val (.long r6), .second, .val (.int r10)] [])) _
        exact X188.returnOut hx Bd.returns (hb hby d1_110) hr
      · show Q1 Z a1 d2 mm ee sF kF h0 n0 _ T188.heap _
        rw [e188]
        refine ⟨r163, r176, (nar .boolean v186), rfl, N188, K188, f193, f194, f195, ?_⟩
        rw [own_v2p hq5 hbt.2.1 hbt.2.2.1] at hq175
        rw [own_v4 hq5 hbt.2.1 hbt.2.2.1] at hq162
        have gh : mm = 4503599627370496 := (own_gh hq5).mp hc23
        have h2 : 2 ≤ ee := by omega
        have p1 : ee - 1 + 1 = ee := by omega
        have p2 : ee - 2 + 1 = ee - 1 := by omega
        rw [p1] at hq175
        rw [p2] at hq162
        exact ⟨Or.inl ⟨gh, Or.inr ⟨by omega, hq162⟩⟩, hq175, own_gn hq5 hj187⟩
    · skip
      have pre196 : ∀ tq, Steps p.tables e below (T9.setTop (mkF m 53 #[.val (.ref a1), .val (.double d2), .second, .val (.int (0 : Int32)), .val (.long r6), .second, .val (.int r10)] [(.ref a1)])) tq → Steps p.tables e below (s₁.setTop (entryFrame m #[(.ref a1), (.double d2), (.int (0 : Int32))] 7)) tq := by
        refine fun tq kq => pre158 tq ?_
        show Steps p.tables e below (T9.setTop (mkF m 23 #[.val (.ref a1), .val (.double d2), .second, .val (.int (0 : Int32)), .val (.long r6), .second, .val (.int r10)] [(.int (lcmpW r6 (4503599627370496 : Int64))), (.ref a1)])) _
        refine XS.ifYes X9.here hx rfl (pc0 := 23) (pc' := 53) rfl (hb hby d1_23) rfl (jfeq hc23).2 (by decide) (by decide) ?_
        exact kq
      have pre197 : ∀ tq, Steps p.tables e below (T9.setTop (mkF m 66 #[.val (.ref a1), .val (.double d2), .second, .val (.int (0 : Int32)), .val (.long r6), .second, .val (.int r10)] [(.int (0 : Int32)), (.int (r10 - (1 : Int32))), (.long (((2 : Int64) * r6) - (1 : Int64))), (.ref a1)])) tq → Steps p.tables e below (s₁.setTop (entryFrame m #[(.ref a1), (.double d2), (.int (0 : Int32))] 7)) tq := by
        refine fun tq kq => pre196 tq ?_
        show Steps p.tables e below (T9.setTop (mkF m 53 #[.val (.ref a1), .val (.double d2), .second, .val (.int (0 : Int32)), .val (.long r6), .second, .val (.int r10)] [(.ref a1)])) _
        refine X9.ldc2Long hx hown (mvT hZ (hw _ (List.mem_of_getElem? (i := 26) rfl))) (g := (mkF m 53 #[.val (.ref a1), .val (.double d2), .second, .val (.int (0 : Int32)), .val (.long r6), .second, .val (.int r10)] [(.ref a1)])) rfl (hb hby d1_53) _ ?_
        show Steps p.tables e below (T9.setTop (mkF m 56 #[.val (.ref a1), .val (.double d2), .second, .val (.int (0 : Int32)), .val (.long r6), .second, .val (.int r10)] [(.long (2 : Int64)), (.ref a1)])) _
        refine XS.lload X9.here hx rfl (hb hby d1_56) rfl ?_
        show Steps p.tables e below (T9.setTop (mkF m 58 #[.val (.ref a1), .val (.double d2), .second, .val (.int (0 : Int32)), .val (.long r6), .second, .val (.int r10)] [(.long r6), (.long (2 : Int64)), (.ref a1)])) _
        refine XS.lmul X9.here hx rfl (hb hby d1_58) rfl ?_
        show Steps p.tables e below (T9.setTop (mkF m 59 #[.val (.ref a1), .val (.double d2), .second, .val (.int (0 : Int32)), .val (.long r6), .second, .val (.int r10)] [(.long ((2 : Int64) * r6)), (.ref a1)])) _
        refine XS.lconst X9.here hx rfl (hb hby d1_59) ?_
        show Steps p.tables e below (T9.setTop (mkF m 60 #[.val (.ref a1), .val (.double d2), .second, .val (.int (0 : Int32)), .val (.long r6), .second, .val (.int r10)] [(.long (1 : Int64)), (.long ((2 : Int64) * r6)), (.ref a1)])) _
        refine XS.lsub X9.here hx rfl (hb hby d1_60) rfl ?_
        show Steps p.tables e below (T9.setTop (mkF m 61 #[.val (.ref a1), .val (.double d2), .second, .val (.int (0 : Int32)), .val (.long r6), .second, .val (.int r10)] [(.long (((2 : Int64) * r6) - (1 : Int64))), (.ref a1)])) _
        refine XS.iload X9.here hx rfl (hb hby d1_61) rfl ?_
        show Steps p.tables e below (T9.setTop (mkF m 63 #[.val (.ref a1), .val (.double d2), .second, .val (.int (0 : Int32)), .val (.long r6), .second, .val (.int r10)] [(.int r10), (.long (((2 : Int64) * r6) - (1 : Int64))), (.ref a1)])) _
        refine XS.iconst X9.here hx rfl (hb hby d1_63) ?_
        show Steps p.tables e below (T9.setTop (mkF m 64 #[.val (.ref a1), .val (.double d2), .second, .val (.int (0 : Int32)), .val (.long r6), .second, .val (.int r10)] [(.int (1 : Int32)), (.int r10), (.long (((2 : Int64) * r6) - (1 : Int64))), (.ref a1)])) _
        refine XS.isub X9.here hx rfl (hb hby d1_64) rfl ?_
        show Steps p.tables e below (T9.setTop (mkF m 65 #[.val (.ref a1), .val (.double d2), .second, .val (.int (0 : Int32)), .val (.long r6), .second, .val (.int r10)] [(.int (r10 - (1 : Int32))), (.long (((2 : Int64) * r6) - (1 : Int64))), (.ref a1)])) _
        refine XS.iloadN X9.here hx rfl (hb hby d1_65) rfl ?_
        exact kq
      have Z198 : n0 ≤ h0.size := Z0
      obtain ⟨_, _, ⟨T198, L198, k198, n198⟩, -, X198, ⟨Lc198, hQ198, l198, y198, z198⟩, st198⟩ := Jvm.LawKit.callS X9 hx (y := (⟨"com/example/partwise/partwise/storage/DecimalRange", "twiceUnits", "(JII)J"⟩ : MethodName)) hown (mvT hZ (hw _ (List.mem_of_getElem? (i := 27) rfl))) (mvT hZ (hw _ (List.mem_of_getElem? (i := 28) rfl))) (mvT hZ (hw _ (List.mem_of_getElem? (i := 3) rfl))) (mvT hZ (hw _ (List.mem_of_getElem? (i := 29) rfl))) (by decide) (backOf (W := 1) (rm6_ge l Z a0 hw [] (((2 : Int64) * r6) - (1 : Int64)) (r10 - (1 : Int32)) sF kF (ee - 1) h0 n0 Z198 (own_r2 hq5 hbt.2.1 hbt.2.2.1) S_FIVES V_sF (⟨(own_sb (k := 1) hq9 hk hbt.2.2.2 (by decide) (by decide)).1, by omega⟩)) hZ (hw _ (List.mem_of_getElem? (i := 29) rfl)) (hw _ (List.mem_of_getElem? (i := 3) rfl)) (by decide) (by decide)) (g := (mkF m 66 #[.val (.ref a1), .val (.double d2), .second, .val (.int (0 : Int32)), .val (.long r6), .second, .val (.int r10)] [(.int (0 : Int32)), (.int (r10 - (1 : Int32))), (.long (((2 : Int64) * r6) - (1 : Int64))), (.ref a1)])) rfl (by rw [hml]; rfl) (argsL := [(.long (((2 : Int64) * r6) - (1 : Int64))), (.int (r10 - (1 : Int32))), (.int (0 : Int32))]) (rest := [(.ref a1)]) (lenOf pd1_2 rfl) rfl (by show 2 * 0 + _ ≤ _; exact Nat.le_of_eq rfl) (hb hby d1_66) (fun _ _ => ⟨rfl, ehq9, (by decide : ((0 + 0) + 0) + 0 ≤ _), (by decide : ((0 + 0) + 0) + 0 ≤ _)⟩)
      dsimp only [Pt.U, Pt.locs, Pt.cells, Pt.slots] at X198 l198 y198 z198 st198 hQ198
      subst l198 y198 z198
      obtain ⟨r199, rfl, Nq198, ehq198, hq198⟩ := hQ198
      have N198 := Fr.app N9 Nq198
      have pre200 : ∀ tq, Steps p.tables e below (T198.setTop (mkF m 69 #[.val (.ref a1), .val (.double d2), .second, .val (.int (0 : Int32)), .val (.long r6), .second, .val (.int r10)] [(.long r199), (.ref a1)])) tq → Steps p.tables e below (s₁.setTop (entryFrame m #[(.ref a1), (.double d2), (.int (0 : Int32))] 7)) tq := fun tq kq => pre197 tq (st198 _ kq)
      obtain ⟨T201, h201, X201, e201, W201, st201⟩ := putF X198 hx hZ hown (host := "") (Or.inl (hw _ (List.mem_of_getElem? (i := 36) rfl))) Via.refl ehq198 F_twiceBelow_a1 E_a1 (Or.inr ⟨(hw _ (List.mem_of_getElem? (i := 37) rfl)), rfl, hnm⟩) (hw _ (List.mem_of_getElem? (i := 2) rfl)) (ty := .long) (by decide) rfl rfl (g := (mkF m 69 #[.val (.ref a1), .val (.double d2), .second, .val (.int (0 : Int32)), .val (.long r6), .second, .val (.int r10)] [(.long r199), (.ref a1)])) rfl rfl (hb hby d1_69)
      have pre202 : ∀ tq, Steps p.tables e below (T201.setTop (mkF m 72 #[.val (.ref a1), .val (.double d2), .second, .val (.int (0 : Int32)), .val (.long r6), .second, .val (.int r10)] [])) tq → Steps p.tables e below (s₁.setTop (entryFrame m #[(.ref a1), (.double d2), (.int (0 : Int32))] 7)) tq := fun tq kq => pre200 tq (st201 _ kq)
      have N201 := Fr.snoc X201 N198 g_a1
      have K201 : Keep h0 h201 [a1] := Keep.wr (Keep.refl h0 [a1]) W201 (Or.inl (List.mem_of_getElem? (i := 0) rfl))
      have f203 := E_a1.wr W201
      have f204 := F_twiceAbove_a1.other W201 (Or.inr (slot_ne (Or.inr (hw _ (List.mem_of_getElem? (i := 39) rfl))) (Or.inr (hw _ (List.mem_of_getElem? (i := 37) rfl))) (by decide) (t := .long) (t' := .long) (by decide) (by decide)))
      have f205 := F_halfwayIncluded_a1.other W201 (Or.inr (slot_ne (Or.inr (hw _ (List.mem_of_getElem? (i := 41) rfl))) (Or.inr (hw _ (List.mem_of_getElem? (i := 37) rfl))) (by decide) (t := .boolean) (t' := .long) (by decide) (by decide)))
      have f206 := S_FIVES.wr W201
      have f207 := V_sF.other W201 (Ne.symm ne_a1_sF)
      have f208 := F_twiceBelow_a1.same W201
      have pre209 : ∀ tq, Steps p.tables e below (T201.setTop (mkF m 86 #[.val (.ref a1), .val (.double d2), .second, .val (.int (0 : Int32)), .val (.long r6), .second, .val (.int r10)] [(.int (0 : Int32)), (.int (r10 - (1 : Int32))), (.long (((2 : Int64) * r6) + (1 : Int64))), (.ref a1)])) tq → Steps p.tables e below (s₁.setTop (entryFrame m #[(.ref a1), (.double d2), (.int (0 : Int32))] 7)) tq := by
        refine fun tq kq => pre202 tq ?_
        show Steps p.tables e below (T201.setTop (mkF m 72 #[.val (.ref a1), .val (.double d2), .second, .val (.int (0 : Int32)), .val (.long r6), .second, .val (.int r10)] [])) _
        refine XS.aloadN X201.here hx rfl (hb hby d1_72) rfl rfl ?_
        show Steps p.tables e below (T201.setTop (mkF m 73 #[.val (.ref a1), .val (.double d2), .second, .val (.int (0 : Int32)), .val (.long r6), .second, .val (.int r10)] [(.ref a1)])) _
        refine X201.ldc2Long hx hown (mvT hZ (hw _ (List.mem_of_getElem? (i := 26) rfl))) (g := (mkF m 73 #[.val (.ref a1), .val (.double d2), .second, .val (.int (0 : Int32)), .val (.long r6), .second, .val (.int r10)] [(.ref a1)])) rfl (hb hby d1_73) _ ?_
        show Steps p.tables e below (T201.setTop (mkF m 76 #[.val (.ref a1), .val (.double d2), .second, .val (.int (0 : Int32)), .val (.long r6), .second, .val (.int r10)] [(.long (2 : Int64)), (.ref a1)])) _
        refine XS.lload X201.here hx rfl (hb hby d1_76) rfl ?_
        show Steps p.tables e below (T201.setTop (mkF m 78 #[.val (.ref a1), .val (.double d2), .second, .val (.int (0 : Int32)), .val (.long r6), .second, .val (.int r10)] [(.long r6), (.long (2 : Int64)), (.ref a1)])) _
        refine XS.lmul X201.here hx rfl (hb hby d1_78) rfl ?_
        show Steps p.tables e below (T201.setTop (mkF m 79 #[.val (.ref a1), .val (.double d2), .second, .val (.int (0 : Int32)), .val (.long r6), .second, .val (.int r10)] [(.long ((2 : Int64) * r6)), (.ref a1)])) _
        refine XS.lconst X201.here hx rfl (hb hby d1_79) ?_
        show Steps p.tables e below (T201.setTop (mkF m 80 #[.val (.ref a1), .val (.double d2), .second, .val (.int (0 : Int32)), .val (.long r6), .second, .val (.int r10)] [(.long (1 : Int64)), (.long ((2 : Int64) * r6)), (.ref a1)])) _
        refine XS.ladd X201.here hx rfl (hb hby d1_80) rfl ?_
        show Steps p.tables e below (T201.setTop (mkF m 81 #[.val (.ref a1), .val (.double d2), .second, .val (.int (0 : Int32)), .val (.long r6), .second, .val (.int r10)] [(.long (((2 : Int64) * r6) + (1 : Int64))), (.ref a1)])) _
        refine XS.iload X201.here hx rfl (hb hby d1_81) rfl ?_
        show Steps p.tables e below (T201.setTop (mkF m 83 #[.val (.ref a1), .val (.double d2), .second, .val (.int (0 : Int32)), .val (.long r6), .second, .val (.int r10)] [(.int r10), (.long (((2 : Int64) * r6) + (1 : Int64))), (.ref a1)])) _
        refine XS.iconst X201.here hx rfl (hb hby d1_83) ?_
        show Steps p.tables e below (T201.setTop (mkF m 84 #[.val (.ref a1), .val (.double d2), .second, .val (.int (0 : Int32)), .val (.long r6), .second, .val (.int r10)] [(.int (1 : Int32)), (.int r10), (.long (((2 : Int64) * r6) + (1 : Int64))), (.ref a1)])) _
        refine XS.isub X201.here hx rfl (hb hby d1_84) rfl ?_
        show Steps p.tables e below (T201.setTop (mkF m 85 #[.val (.ref a1), .val (.double d2), .second, .val (.int (0 : Int32)), .val (.long r6), .second, .val (.int r10)] [(.int (r10 - (1 : Int32))), (.long (((2 : Int64) * r6) + (1 : Int64))), (.ref a1)])) _
        refine XS.iloadN X201.here hx rfl (hb hby d1_85) rfl ?_
        exact kq
      have Z210 : n0 ≤ h201.size := (Nat.le_trans Z0 (Keep.of_wr W201).1)
      obtain ⟨_, _, ⟨T210, L210, k210, n210⟩, -, X210, ⟨Lc210, hQ210, l210, y210, z210⟩, st210⟩ := Jvm.LawKit.callS X201 hx (y := (⟨"com/example/partwise/partwise/storage/DecimalRange", "twiceUnits", "(JII)J"⟩ : MethodName)) hown (mvT hZ (hw _ (List.mem_of_getElem? (i := 27) rfl))) (mvT hZ (hw _ (List.mem_of_getElem? (i := 28) rfl))) (mvT hZ (hw _ (List.mem_of_getElem? (i := 3) rfl))) (mvT hZ (hw _ (List.mem_of_getElem? (i := 29) rfl))) (by decide) (backOf (W := 1) (rm6_ge l Z a0 hw [] (((2 : Int64) * r6) + (1 : Int64)) (r10 - (1 : Int32)) sF kF (ee - 1) h201 n0 Z210 (own_r2p hq5 hbt.2.1 hbt.2.2.1) f206 f207 (⟨(own_sb (k := 1) hq9 hk hbt.2.2.2 (by decide) (by decide)).1, by omega⟩)) hZ (hw _ (List.mem_of_getElem? (i := 29) rfl)) (hw _ (List.mem_of_getElem? (i := 3) rfl)) (by decide) (by decide)) (g := (mkF m 86 #[.val (.ref a1), .val (.double d2), .second, .val (.int (0 : Int32)), .val (.long r6), .second, .val (.int r10)] [(.int (0 : Int32)), (.int (r10 - (1 : Int32))), (.long (((2 : Int64) * r6) + (1 : Int64))), (.ref a1)])) rfl (by rw [hml]; rfl) (argsL := [(.long (((2 : Int64) * r6) + (1 : Int64))), (.int (r10 - (1 : Int32))), (.int (0 : Int32))]) (rest := [(.ref a1)]) (lenOf pd1_2 rfl) rfl (by show 2 * 0 + _ ≤ _; exact Nat.le_of_eq rfl) (hb hby d1_86) (fun _ _ => ⟨rfl, e201, (by decide : (((0 + 0) + 0) + 0) + 0 ≤ _), (by decide : (((0 + 0) + 0) + 0) + 0 ≤ _)⟩)
      dsimp only [Pt.U, Pt.locs, Pt.cells, Pt.slots] at X210 l210 y210 z210 st210 hQ210
      subst l210 y210 z210
      obtain ⟨r211, rfl, Nq210, ehq210, hq210⟩ := hQ210
      have N210 := Fr.app N201 Nq210
      have pre212 : ∀ tq, Steps p.tables e below (T210.setTop (mkF m 89 #[.val (.ref a1), .val (.double d2), .second, .val (.int (0 : Int32)), .val (.long r6), .second, .val (.int r10)] [(.long r211), (.ref a1)])) tq → Steps p.tables e below (s₁.setTop (entryFrame m #[(.ref a1), (.double d2), (.int (0 : Int32))] 7)) tq := fun tq kq => pre209 tq (st210 _ kq)
      obtain ⟨T213, h213, X213, e213, W213, st213⟩ := putF X210 hx hZ hown (host := "") (Or.inl (hw _ (List.mem_of_getElem? (i := 38) rfl))) Via.refl ehq210 f204 f203 (Or.inr ⟨(hw _ (List.mem_of_getElem? (i := 39) rfl)), rfl, hnm⟩) (hw _ (List.mem_of_getElem? (i := 2) rfl)) (ty := .long) (by decide) rfl rfl (g := (mkF m 89 #[.val (.ref a1), .val (.double d2), .second, .val (.int (0 : Int32)), .val (.long r6), .second, .val (.int r10)] [(.long r211), (.ref a1)])) rfl rfl (hb hby d1_89)
      have pre214 : ∀ tq, Steps p.tables e below (T213.setTop (mkF m 92 #[.val (.ref a1), .val (.double d2), .second, .val (.int (0 : Int32)), .val (.long r6), .second, .val (.int r10)] [])) tq → Steps p.tables e below (s₁.setTop (entryFrame m #[(.ref a1), (.double d2), (.int (0 : Int32))] 7)) tq := fun tq kq => pre212 tq (st213 _ kq)
      have N213 := Fr.snoc X213 N210 g_a1
      have K213 : Keep h0 h213 [a1] := Keep.wr K201 W213 (Or.inl (List.mem_of_getElem? (i := 0) rfl))
      have f215 := f203.wr W213
      have f216 := f205.other W213 (Or.inr (slot_ne (Or.inr (hw _ (List.mem_of_getElem? (i := 41) rfl))) (Or.inr (hw _ (List.mem_of_getElem? (i := 39) rfl))) (by decide) (t := .boolean) (t' := .long) (by decide) (by decide)))
      have f217 := f206.wr W213
      have f218 := f207.other W213 (Ne.symm ne_a1_sF)
      have f219 := f208.other W213 (Or.inr (slot_ne (Or.inr (hw _ (List.mem_of_getElem? (i := 37) rfl))) (Or.inr (hw _ (List.mem_of_getElem? (i := 39) rfl))) (by decide) (t := .long) (t' := .long) (by decide) (by decide)))
      have f220 := f204.same W213
      obtain ⟨v221, hj222, pre222⟩ : ∃ v221 : Int32, (((r6 &&& (1 : Int64)) = (0 : Int64) ∧ v221 = (1 : Int32)) ∨ (¬ ((r6 &&& (1 : Int64)) = (0 : Int64)) ∧ v221 = (0 : Int32))) ∧ (∀ tq, Steps p.tables e below (T213.setTop (mkF m 107 #[.val (.ref a1), .val (.double d2), .second, .val (.int (0 : Int32)), .val (.long r6), .second, .val (.int r10)] [(.int v221), (.ref a1)])) tq → Steps p.tables e below (s₁.setTop (entryFrame m #[(.ref a1), (.double d2), (.int (0 : Int32))] 7)) tq) := by
        by_cases hb0_99 : (r6 &&& (1 : Int64)) = (0 : Int64)
        · skip
          refine ⟨(1 : Int32), Or.inl (⟨hb0_99, rfl⟩), fun tq kq => pre214 tq ?_⟩
          show Steps p.tables e below (T213.setTop (mkF m 92 #[.val (.ref a1), .val (.double d2), .second, .val (.int (0 : Int32)), .val (.long r6), .second, .val (.int r10)] [])) _
          refine XS.aloadN X213.here hx rfl (hb hby d1_92) rfl rfl ?_
          show Steps p.tables e below (T213.setTop (mkF m 93 #[.val (.ref a1), .val (.double d2), .second, .val (.int (0 : Int32)), .val (.long r6), .second, .val (.int r10)] [(.ref a1)])) _
          refine XS.lload X213.here hx rfl (hb hby d1_93) rfl ?_
          show Steps p.tables e below (T213.setTop (mkF m 95 #[.val (.ref a1), .val (.double d2), .second, .val (.int (0 : Int32)), .val (.long r6), .second, .val (.int r10)] [(.long r6), (.ref a1)])) _
          refine XS.lconst X213.here hx rfl (hb hby d1_95) ?_
          show Steps p.tables e below (T213.setTop (mkF m 96 #[.val (.ref a1), .val (.double d2), .second, .val (.int (0 : Int32)), .val (.long r6), .second, .val (.int r10)] [(.long (1 : Int64)), (.long r6), (.ref a1)])) _
          refine XS.land X213.here hx rfl (hb hby d1_96) rfl ?_
          show Steps p.tables e below (T213.setTop (mkF m 97 #[.val (.ref a1), .val (.double d2), .second, .val (.int (0 : Int32)), .val (.long r6), .second, .val (.int r10)] [(.long (r6 &&& (1 : Int64))), (.ref a1)])) _
          refine XS.lconst X213.here hx rfl (hb hby d1_97) ?_
          show Steps p.tables e below (T213.setTop (mkF m 98 #[.val (.ref a1), .val (.double d2), .second, .val (.int (0 : Int32)), .val (.long r6), .second, .val (.int r10)] [(.long (0 : Int64)), (.long (r6 &&& (1 : Int64))), (.ref a1)])) _
          refine XS.lcmp X213.here hx rfl (hb hby d1_98) rfl ?_
          show Steps p.tables e below (T213.setTop (mkF m 99 #[.val (.ref a1), .val (.double d2), .second, .val (.int (0 : Int32)), .val (.long r6), .second, .val (.int r10)] [(.int (lcmpW (r6 &&& (1 : Int64)) (0 : Int64))), (.ref a1)])) _
          refine XS.ifNo X213.here hx rfl (hb hby d1_99) rfl (jteq hb0_99).2 ?_
          show Steps p.tables e below (T213.setTop (mkF m 102 #[.val (.ref a1), .val (.double d2), .second, .val (.int (0 : Int32)), .val (.long r6), .second, .val (.int r10)] [(.ref a1)])) _
          refine XS.iconst X213.here hx rfl (hb hby d1_102) ?_
          show Steps p.tables e below (T213.setTop (mkF m 103 #[.val (.ref a1), .val (.double d2), .second, .val (.int (0 : Int32)), .val (.long r6), .second, .val (.int r10)] [(.int (1 : Int32)), (.ref a1)])) _
          refine XS.goto X213.here hx rfl (pc0 := 103) (pc' := 107) rfl (hb hby d1_103) (by decide) (by decide) ?_
          exact kq
        · skip
          refine ⟨(0 : Int32), Or.inr (⟨hb0_99, rfl⟩), fun tq kq => pre214 tq ?_⟩
          show Steps p.tables e below (T213.setTop (mkF m 92 #[.val (.ref a1), .val (.double d2), .second, .val (.int (0 : Int32)), .val (.long r6), .second, .val (.int r10)] [])) _
          refine XS.aloadN X213.here hx rfl (hb hby d1_92) rfl rfl ?_
          show Steps p.tables e below (T213.setTop (mkF m 93 #[.val (.ref a1), .val (.double d2), .second, .val (.int (0 : Int32)), .val (.long r6), .second, .val (.int r10)] [(.ref a1)])) _
          refine XS.lload X213.here hx rfl (hb hby d1_93) rfl ?_
          show Steps p.tables e below (T213.setTop (mkF m 95 #[.val (.ref a1), .val (.double d2), .second, .val (.int (0 : Int32)), .val (.long r6), .second, .val (.int r10)] [(.long r6), (.ref a1)])) _
          refine XS.lconst X213.here hx rfl (hb hby d1_95) ?_
          show Steps p.tables e below (T213.setTop (mkF m 96 #[.val (.ref a1), .val (.double d2), .second, .val (.int (0 : Int32)), .val (.long r6), .second, .val (.int r10)] [(.long (1 : Int64)), (.long r6), (.ref a1)])) _
          refine XS.land X213.here hx rfl (hb hby d1_96) rfl ?_
          show Steps p.tables e below (T213.setTop (mkF m 97 #[.val (.ref a1), .val (.double d2), .second, .val (.int (0 : Int32)), .val (.long r6), .second, .val (.int r10)] [(.long (r6 &&& (1 : Int64))), (.ref a1)])) _
          refine XS.lconst X213.here hx rfl (hb hby d1_97) ?_
          show Steps p.tables e below (T213.setTop (mkF m 98 #[.val (.ref a1), .val (.double d2), .second, .val (.int (0 : Int32)), .val (.long r6), .second, .val (.int r10)] [(.long (0 : Int64)), (.long (r6 &&& (1 : Int64))), (.ref a1)])) _
          refine XS.lcmp X213.here hx rfl (hb hby d1_98) rfl ?_
          show Steps p.tables e below (T213.setTop (mkF m 99 #[.val (.ref a1), .val (.double d2), .second, .val (.int (0 : Int32)), .val (.long r6), .second, .val (.int r10)] [(.int (lcmpW (r6 &&& (1 : Int64)) (0 : Int64))), (.ref a1)])) _
          refine XS.ifYes X213.here hx rfl (pc0 := 99) (pc' := 106) rfl (hb hby d1_99) rfl (jfeq hb0_99).2 (by decide) (by decide) ?_
          show Steps p.tables e below (T213.setTop (mkF m 106 #[.val (.ref a1), .val (.double d2), .second, .val (.int (0 : Int32)), .val (.long r6), .second, .val (.int r10)] [(.ref a1)])) _
          refine XS.iconst X213.here hx rfl (hb hby d1_106) ?_
          exact kq
      obtain ⟨T223, h223, X223, e223, W223, st223⟩ := putFN X213 hx hZ hown (hw _ (List.mem_of_getElem? (i := 40) rfl)) Via.refl e213 f216 f215 (Or.inr ⟨(hw _ (List.mem_of_getElem? (i := 41) rfl)), rfl, hnm⟩) (hw _ (List.mem_of_getElem? (i := 2) rfl)) (ty := .boolean) (v' := (.int (nar .boolean v221))) (by decide) rfl (fits_nar_bool _) (g := (mkF m 107 #[.val (.ref a1), .val (.double d2), .second, .val (.int (0 : Int32)), .val (.long r6), .second, .val (.int r10)] [(.int v221), (.ref a1)])) rfl rfl (hb hby d1_107)
      have pre224 : ∀ tq, Steps p.tables e below (T223.setTop (mkF m 110 #[.val (.ref a1), .val (.double d2), .second, .val (.int (0 : Int32)), .val (.long r6), .second, .val (.int r10)] [])) tq → Steps p.tables e below (s₁.setTop (entryFrame m #[(.ref a1), (.double d2), (.int (0 : Int32))] 7)) tq := fun tq kq => pre222 tq (st223 _ kq)
      have N223 := Fr.snoc X223 N213 g_a1
      have K223 : Keep h0 h223 [a1] := Keep.wr K213 W223 (Or.inl (List.mem_of_getElem? (i := 0) rfl))
      have f225 := f215.wr W223
      have f226 := f217.wr W223
      have f227 := f218.other W223 (Ne.symm ne_a1_sF)
      have f228 := f219.other W223 (Or.inr (slot_ne (Or.inr (hw _ (List.mem_of_getElem? (i := 37) rfl))) (Or.inr (hw _ (List.mem_of_getElem? (i := 41) rfl))) (by decide) (t := .long) (t' := .boolean) (by decide) (by decide)))
      have f229 := f220.other W223 (Or.inr (slot_ne (Or.inr (hw _ (List.mem_of_getElem? (i := 39) rfl))) (Or.inr (hw _ (List.mem_of_getElem? (i := 41) rfl))) (by decide) (t := .long) (t' := .boolean) (by decide) (by decide)))
      have f230 := f216.same W223
      obtain ⟨fs, hr, hrun, hended, hW, hsame⟩ := X223.leave (v := none) (fun _ => rfl)
      refine ⟨_, _, pre224 _ ?_, hrun, hended, _, _, rfl, ?_, ⟨_, rfl⟩, hW, hsame.mono (by decide) (by decide)⟩
      · skip
        show Steps p.tables e below (T223.setTop (mkF m 110 #[.val (.ref a1), .val (.double d2), .second, .val (.int (0 : Int32)), .val (.long r6), .second, .val (.int r10)] [])) _
        exact X223.returnOut hx Bd.returns (hb hby d1_110) hr
      · show Q1 Z a1 d2 mm ee sF kF h0 n0 _ T223.heap _
        rw [e223]
        refine ⟨r199, r211, (nar .boolean v221), rfl, N223, K223, f228, f229, f230, ?_⟩
        rw [own_v2p hq5 hbt.2.1 hbt.2.2.1] at hq210
        rw [own_v2 hq5 hbt.2.1 hbt.2.2.1] at hq198
        have gh : mm ≠ 4503599627370496 := fun z => hc23 ((own_gh hq5).mpr z)
        have h2 : 2 ≤ ee := by omega
        have p1 : ee - 1 + 1 = ee := by omega
        have p2 : ee - 2 + 1 = ee - 1 := by omega
        rw [p1] at hq210
        rw [p1] at hq198
        exact ⟨Or.inr ⟨gh, hq198⟩, hq210, own_gn hq5 hj222⟩
/-! body 8 -/
theorem d8_0 : decode prog_103_method_3_code 0 = .ok (.ldc2_w 25, 3) := by decide +kernel
theorem d8_3 : decode prog_103_method_3_code 3 = .ok (.lload_n 1, 1) := by decide +kernel
theorem d8_4 : decode prog_103_method_3_code 4 = .ok (.lmul, 1) := by decide +kernel
theorem d8_5 : decode prog_103_method_3_code 5 = .ok (.lstore_n 3, 1) := by decide +kernel
theorem d8_6 : decode prog_103_method_3_code 6 = .ok (.lload_n 3, 1) := by decide +kernel
theorem d8_7 : decode prog_103_method_3_code 7 = .ok (.aload_n 0, 1) := by decide +kernel
theorem d8_8 : decode prog_103_method_3_code 8 = .ok (.getfield 31, 3) := by decide +kernel
theorem d8_11 : decode prog_103_method_3_code 11 = .ok (.lcmp, 1) := by decide +kernel
theorem d8_12 : decode prog_103_method_3_code 12 = .ok (.ifCond .gt 19, 3) := by decide +kernel
theorem d8_15 : decode prog_103_method_3_code 15 = .ok (.lload_n 3, 1) := by decide +kernel
theorem d8_16 : decode prog_103_method_3_code 16 = .ok (.aload_n 0, 1) := by decide +kernel
theorem d8_17 : decode prog_103_method_3_code 17 = .ok (.getfield 31, 3) := by decide +kernel
theorem d8_20 : decode prog_103_method_3_code 20 = .ok (.lcmp, 1) := by decide +kernel
theorem d8_21 : decode prog_103_method_3_code 21 = .ok (.ifCond .ne 12, 3) := by decide +kernel
theorem d8_24 : decode prog_103_method_3_code 24 = .ok (.aload_n 0, 1) := by decide +kernel
theorem d8_25 : decode prog_103_method_3_code 25 = .ok (.getfield 34, 3) := by decide +kernel
theorem d8_28 : decode prog_103_method_3_code 28 = .ok (.ifCond .ne 5, 3) := by decide +kernel
theorem d8_31 : decode prog_103_method_3_code 31 = .ok (.iconst 1, 1) := by decide +kernel
theorem d8_32 : decode prog_103_method_3_code 32 = .ok (.ireturn, 1) := by decide +kernel
theorem d8_33 : decode prog_103_method_3_code 33 = .ok (.lload_n 3, 1) := by decide +kernel
theorem d8_34 : decode prog_103_method_3_code 34 = .ok (.aload_n 0, 1) := by decide +kernel
theorem d8_35 : decode prog_103_method_3_code 35 = .ok (.getfield 27, 3) := by decide +kernel
theorem d8_38 : decode prog_103_method_3_code 38 = .ok (.lcmp, 1) := by decide +kernel
theorem d8_39 : decode prog_103_method_3_code 39 = .ok (.ifCond .gt 19, 3) := by decide +kernel
theorem d8_42 : decode prog_103_method_3_code 42 = .ok (.lload_n 3, 1) := by decide +kernel
theorem d8_43 : decode prog_103_method_3_code 43 = .ok (.aload_n 0, 1) := by decide +kernel
theorem d8_44 : decode prog_103_method_3_code 44 = .ok (.getfield 27, 3) := by decide +kernel
theorem d8_47 : decode prog_103_method_3_code 47 = .ok (.lcmp, 1) := by decide +kernel
theorem d8_48 : decode prog_103_method_3_code 48 = .ok (.ifCond .ne 14, 3) := by decide +kernel
theorem d8_51 : decode prog_103_method_3_code 51 = .ok (.aload_n 0, 1) := by decide +kernel
theorem d8_52 : decode prog_103_method_3_code 52 = .ok (.getfield 34, 3) := by decide +kernel
theorem d8_55 : decode prog_103_method_3_code 55 = .ok (.ifCond .eq 7, 3) := by decide +kernel
theorem d8_58 : decode prog_103_method_3_code 58 = .ok (.iconst 0, 1) := by decide +kernel
theorem d8_59 : decode prog_103_method_3_code 59 = .ok (.goto 4, 3) := by decide +kernel
theorem d8_62 : decode prog_103_method_3_code 62 = .ok (.iconst (-1), 1) := by decide +kernel
theorem d8_63 : decode prog_103_method_3_code 63 = .ok (.ireturn, 1) := by decide +kernel
theorem pn_8 : plainName "com/example/partwise/partwise/storage/DecimalRange" = true := by first | (simp [plainName, overriddenIn]; done) | decide +kernel
theorem ef_8 (m : MethodId) (a1 : Addr) (q2 : Int64) : entryFrame m #[(.ref a1), (.long q2)] 5 = mkF m 0 #[.val (.ref a1), .val (.long q2), .second, .unset, .unset] [] := by first | (simp [entryFrame, mkF, argsToLocals, Value.category]; done) | rfl
def Q8 (Z : State) (a1 : Addr) (q2 : Int64) (tb : Int64) (ta : Int64) (hwi : Int32) (h0 : Heap) (n0 : Nat) (v : Option Value) (h : Heap) (L : List Loc) : Prop := ∃ r : Int32, v = some (.int r) ∧ Fr n0 L ∧ h = h0 ∧ ((r.toInt = 1 ∧ (ta.toInt < 2 * q2.toInt ∨ (2 * q2.toInt = ta.toInt ∧ hwi.toInt = 0))) ∨ (r.toInt = 0 ∧ ¬ (ta.toInt < 2 * q2.toInt ∨ (2 * q2.toInt = ta.toInt ∧ hwi.toInt = 0)) ∧ (tb.toInt < 2 * q2.toInt ∨ (2 * q2.toInt = tb.toInt ∧ hwi.toInt ≠ 0))) ∨ (r.toInt = -1 ∧ ¬ (ta.toInt < 2 * q2.toInt ∨ (2 * q2.toInt = ta.toInt ∧ hwi.toInt = 0)) ∧ ¬ (tb.toInt < 2 * q2.toInt ∨ (2 * q2.toInt = tb.toInt ∧ hwi.toInt ≠ 0))))
set_option maxRecDepth 65536 in
set_option maxHeartbeats 40000000 in
theorem rm8 (l : Launch) (Z : State) (a0 : Array Value) (hw : ∀ d ∈ tables_1, d.before a0 Z = true) (ws : List Jvm.Cond) (a1 : Addr) (q2 : Int64) (tb : Int64) (ta : Int64) (hwi : Int32) (h0 : Heap) (n0 : Nat) (Z0 : n0 ≤ h0.size) (F_twiceAbove_a1 : Fld Z h0 a1 "com/example/partwise/partwise/storage/DecimalRange" "twiceAbove" "J" (.long ta)) (F_twiceBelow_a1 : Fld Z h0 a1 "com/example/partwise/partwise/storage/DecimalRange" "twiceBelow" "J" (.long tb)) (F_halfwayIncluded_a1 : Fld Z h0 a1 "com/example/partwise/partwise/storage/DecimalRange" "halfwayIncluded" "Z" (.int hwi)) (hn : -2 ^ 62 ≤ q2.toInt ∧ q2.toInt < 2 ^ 62) :
    MetFree l (⟨"com/example/partwise/partwise/storage/DecimalRange", "side", "(J)I"⟩ : MethodName) (head1 (Jvm.Cond.code (⟨"com/example/partwise/partwise/storage/DecimalRange", "side", "(J)I"⟩ : MethodName) prog_103_method_3_code 5 (some .int) :: ws) ({ frames := 0, cells := 0, slots := 0, locals := 0 } : Room)) (fun a U => a = #[(.ref a1), (.long q2)] ∧ Z.Warmed39 U.vm ∧ U.heap = h0) (fun _ _ _ _ _ => True) (fun _ U o U' => ∃ v L, o = .returned v ∧ Q8 Z a1 q2 tb ta hwi h0 n0 v U'.heap L ∧ FrameEnd U o U' L ({ frames := 0, cells := 0, slots := 0, locals := 0 } : Room).cells ({ frames := 0, cells := 0, slots := 0, locals := 0 } : Room).slots) := by
  refine MetFree.of_bodySF (plainFor_of_name pn_8) hisR ?_
  intro p e s m args below meth c s₁ Bd hml0 hP hK
  obtain ⟨rfl, hZ, hh⟩ := hP
  have hx := Bd.exec
  have hby := Bd.bytes
  have hml : c.maxLocals = 5 := hml0
  have hown : s.vm.findClass "com/example/partwise/partwise/storage/DecimalRange" = some m.cls := findClass_of_methodNamed Bd.named
  have hnm := (name_of_methodNamed Bd.named Bd.method).1
  have X0 : Stand p l e ({ frames := 0, cells := 0, slots := 0, locals := 0 } : Room) s m #[(.ref a1), (.long q2)] below meth c s₁ [] 0 0 := Stand.of_body Bd
  have e0 : s₁.heap = h0 := by rw [← hh, Bd.state]; rfl
  have N0 := Fr.nil n0
  have pre0 : ∀ tq, Steps p.tables e below (s₁.setTop (mkF m 0 #[.val (.ref a1), .val (.long q2), .second, .unset, .unset] [])) tq → Steps p.tables e below (s₁.setTop (entryFrame m #[(.ref a1), (.long q2)] 5)) tq := fun tq kq => castTop (ef_8 m a1 q2) kq
  obtain ⟨v2, hv_v2, pre1⟩ : ∃ v2 : Int64, v2 = ((2 : Int64) * q2) ∧ (∀ tq, Steps p.tables e below (s₁.setTop (mkF m 6 #[.val (.ref a1), .val (.long q2), .second, .val (.long v2), .second] [])) tq → Steps p.tables e below (s₁.setTop (entryFrame m #[(.ref a1), (.long q2)] 5)) tq) := by
    refine ⟨_, rfl, fun tq kq => pre0 tq ?_⟩
    show Steps p.tables e below (s₁.setTop (mkF m 0 #[.val (.ref a1), .val (.long q2), .second, .unset, .unset] [])) _
    refine X0.ldc2Long hx hown (mvT hZ (hw _ (List.mem_of_getElem? (i := 26) rfl))) (g := (mkF m 0 #[.val (.ref a1), .val (.long q2), .second, .unset, .unset] [])) rfl (hb hby d8_0) _ ?_
    show Steps p.tables e below (s₁.setTop (mkF m 3 #[.val (.ref a1), .val (.long q2), .second, .unset, .unset] [(.long (2 : Int64))])) _
    refine XS.lloadN X0.here hx rfl (hb hby d8_3) rfl ?_
    show Steps p.tables e below (s₁.setTop (mkF m 4 #[.val (.ref a1), .val (.long q2), .second, .unset, .unset] [(.long q2), (.long (2 : Int64))])) _
    refine XS.lmul X0.here hx rfl (hb hby d8_4) rfl ?_
    show Steps p.tables e below (s₁.setTop (mkF m 5 #[.val (.ref a1), .val (.long q2), .second, .unset, .unset] [(.long ((2 : Int64) * q2))])) _
    refine XS.lstoreN X0.here hx rfl (hb hby d8_5) rfl (l' := #[.val (.ref a1), .val (.long q2), .second, .val (.long ((2 : Int64) * q2)), .second]) rfl ?_
    exact kq
  have pre3 : ∀ tq, Steps p.tables e below (s₁.setTop (mkF m 8 #[.val (.ref a1), .val (.long q2), .second, .val (.long v2), .second] [(.ref a1), (.long v2)])) tq → Steps p.tables e below (s₁.setTop (entryFrame m #[(.ref a1), (.long q2)] 5)) tq := by
    refine fun tq kq => pre1 tq ?_
    show Steps p.tables e below (s₁.setTop (mkF m 6 #[.val (.ref a1), .val (.long q2), .second, .val (.long v2), .second] [])) _
    refine XS.lloadN X0.here hx rfl (hb hby d8_6) rfl ?_
    show Steps p.tables e below (s₁.setTop (mkF m 7 #[.val (.ref a1), .val (.long q2), .second, .val (.long v2), .second] [(.long v2)])) _
    refine XS.aloadN X0.here hx rfl (hb hby d8_7) rfl rfl ?_
    exact kq
  obtain ⟨T4, X4, e4, st4⟩ := getF X0 hx hZ hown (host := "") (Or.inl (hw _ (List.mem_of_getElem? (i := 38) rfl))) Via.refl e0 F_twiceAbove_a1 (g := (mkF m 8 #[.val (.ref a1), .val (.long q2), .second, .val (.long v2), .second] [(.ref a1), (.long v2)])) rfl rfl (hb hby d8_8)
  have pre5 : ∀ tq, Steps p.tables e below (T4.setTop (mkF m 11 #[.val (.ref a1), .val (.long q2), .second, .val (.long v2), .second] [(.long ta), (.long v2)])) tq → Steps p.tables e below (s₁.setTop (entryFrame m #[(.ref a1), (.long q2)] 5)) tq := fun tq kq => pre3 tq (st4 _ kq)
  have pre6 : ∀ tq, Steps p.tables e below (T4.setTop (mkF m 12 #[.val (.ref a1), .val (.long q2), .second, .val (.long v2), .second] [(.int (lcmpW v2 ta))])) tq → Steps p.tables e below (s₁.setTop (entryFrame m #[(.ref a1), (.long q2)] 5)) tq := by
    refine fun tq kq => pre5 tq ?_
    show Steps p.tables e below (T4.setTop (mkF m 11 #[.val (.ref a1), .val (.long q2), .second, .val (.long v2), .second] [(.long ta), (.long v2)])) _
    refine XS.lcmp X4.here hx rfl (hb hby d8_11) rfl ?_
    exact kq
  by_cases hc12 : ta < v2
  · skip
    have pre7 : ∀ tq, Steps p.tables e below (T4.setTop (mkF m 31 #[.val (.ref a1), .val (.long q2), .second, .val (.long v2), .second] [])) tq → Steps p.tables e below (s₁.setTop (entryFrame m #[(.ref a1), (.long q2)] 5)) tq := by
      refine fun tq kq => pre6 tq ?_
      show Steps p.tables e below (T4.setTop (mkF m 12 #[.val (.ref a1), .val (.long q2), .second, .val (.long v2), .second] [(.int (lcmpW v2 ta))])) _
      refine XS.ifYes X4.here hx rfl (pc0 := 12) (pc' := 31) rfl (hb hby d8_12) rfl (jtlt hc12).2.2.1 (by decide) (by decide) ?_
      exact kq
    obtain ⟨fs, hr, hrun, hended, hW, hsame⟩ := X4.leave (v := some (.int (1 : Int32))) (fun h => by rw [Bd.returns] at h; cases h)
    refine ⟨_, _, pre7 _ ?_, hrun, hended, _, _, rfl, ?_, ⟨_, rfl⟩, hW, hsame.mono (by decide) (by decide)⟩
    · skip
      show Steps p.tables e below (T4.setTop (mkF m 31 #[.val (.ref a1), .val (.long q2), .second, .val (.long v2), .second] [])) _
      refine XS.iconst X4.here hx rfl (hb hby d8_31) ?_
      show Steps p.tables e below (T4.setTop (mkF m 32 #[.val (.ref a1), .val (.long q2), .second, .val (.long v2), .second] [(.int (1 : Int32))])) _
      exact retI X4 hx Bd.returns (hb hby d8_32) hr
    · show Q8 Z a1 q2 tb ta hwi h0 n0 _ T4.heap _
      rw [e4]
      refine ⟨(1 : Int32), rfl, N0, rfl, ?_⟩
      have h2 := own_dbl hv_v2 hn.1 hn.2
      simp only [Int64.lt_iff_toInt_lt, ← Int64.toInt_inj, Int64.reduceToInt, Int32.lt_iff_toInt_lt, ← Int32.toInt_inj, Int32.reduceToInt, true_and, and_true, false_and, and_false, or_false, false_or, not_true_eq_false, not_false_eq_true, true_implies, false_implies] at hc12 ⊢ <;> omega
  · skip
    have pre8 : ∀ tq, Steps p.tables e below (T4.setTop (mkF m 15 #[.val (.ref a1), .val (.long q2), .second, .val (.long v2), .second] [])) tq → Steps p.tables e below (s₁.setTop (entryFrame m #[(.ref a1), (.long q2)] 5)) tq := by
      refine fun tq kq => pre6 tq ?_
      show Steps p.tables e below (T4.setTop (mkF m 12 #[.val (.ref a1), .val (.long q2), .second, .val (.long v2), .second] [(.int (lcmpW v2 ta))])) _
      refine XS.ifNo X4.here hx rfl (hb hby d8_12) rfl (jflt hc12).2.2.1 ?_
      exact kq
    have pre9 : ∀ tq, Steps p.tables e below (T4.setTop (mkF m 17 #[.val (.ref a1), .val (.long q2), .second, .val (.long v2), .second] [(.ref a1), (.long v2)])) tq → Steps p.tables e below (s₁.setTop (entryFrame m #[(.ref a1), (.long q2)] 5)) tq := by
      refine fun tq kq => pre8 tq ?_
      show Steps p.tables e below (T4.setTop (mkF m 15 #[.val (.ref a1), .val (.long q2), .second, .val (.long v2), .second] [])) _
      refine XS.lloadN X4.here hx rfl (hb hby d8_15) rfl ?_
      show Steps p.tables e below (T4.setTop (mkF m 16 #[.val (.ref a1), .val (.long q2), .second, .val (.long v2), .second] [(.long v2)])) _
      refine XS.aloadN X4.here hx rfl (hb hby d8_16) rfl rfl ?_
      exact kq
    obtain ⟨T10, X10, e10, st10⟩ := getF X4 hx hZ hown (host := "") (Or.inl (hw _ (List.mem_of_getElem? (i := 38) rfl))) Via.refl e4 F_twiceAbove_a1 (g := (mkF m 17 #[.val (.ref a1), .val (.long q2), .second, .val (.long v2), .second] [(.ref a1), (.long v2)])) rfl rfl (hb hby d8_17)
    have pre11 : ∀ tq, Steps p.tables e below (T10.setTop (mkF m 20 #[.val (.ref a1), .val (.long q2), .second, .val (.long v2), .second] [(.long ta), (.long v2)])) tq → Steps p.tables e below (s₁.setTop (entryFrame m #[(.ref a1), (.long q2)] 5)) tq := fun tq kq => pre9 tq (st10 _ kq)
    have pre12 : ∀ tq, Steps p.tables e below (T10.setTop (mkF m 21 #[.val (.ref a1), .val (.long q2), .second, .val (.long v2), .second] [(.int (lcmpW v2 ta))])) tq → Steps p.tables e below (s₁.setTop (entryFrame m #[(.ref a1), (.long q2)] 5)) tq := by
      refine fun tq kq => pre11 tq ?_
      show Steps p.tables e below (T10.setTop (mkF m 20 #[.val (.ref a1), .val (.long q2), .second, .val (.long v2), .second] [(.long ta), (.long v2)])) _
      refine XS.lcmp X10.here hx rfl (hb hby d8_20) rfl ?_
      exact kq
    by_cases hc21 : v2 = ta
    · skip
      have pre13 : ∀ tq, Steps p.tables e below (T10.setTop (mkF m 24 #[.val (.ref a1), .val (.long q2), .second, .val (.long v2), .second] [])) tq → Steps p.tables e below (s₁.setTop (entryFrame m #[(.ref a1), (.long q2)] 5)) tq := by
        refine fun tq kq => pre12 tq ?_
        show Steps p.tables e below (T10.setTop (mkF m 21 #[.val (.ref a1), .val (.long q2), .second, .val (.long v2), .second] [(.int (lcmpW v2 ta))])) _
        refine XS.ifNo X10.here hx rfl (hb hby d8_21) rfl (jteq hc21).2 ?_
        exact kq
      have pre14 : ∀ tq, Steps p.tables e below (T10.setTop (mkF m 25 #[.val (.ref a1), .val (.long q2), .second, .val (.long v2), .second] [(.ref a1)])) tq → Steps p.tables e below (s₁.setTop (entryFrame m #[(.ref a1), (.long q2)] 5)) tq := by
        refine fun tq kq => pre13 tq ?_
        show Steps p.tables e below (T10.setTop (mkF m 24 #[.val (.ref a1), .val (.long q2), .second, .val (.long v2), .second] [])) _
        refine XS.aloadN X10.here hx rfl (hb hby d8_24) rfl rfl ?_
        exact kq
      obtain ⟨T15, X15, e15, st15⟩ := getF X10 hx hZ hown (host := "") (Or.inl (hw _ (List.mem_of_getElem? (i := 40) rfl))) Via.refl e10 F_halfwayIncluded_a1 (g := (mkF m 25 #[.val (.ref a1), .val (.long q2), .second, .val (.long v2), .second] [(.ref a1)])) rfl rfl (hb hby d8_25)
      have pre16 : ∀ tq, Steps p.tables e below (T15.setTop (mkF m 28 #[.val (.ref a1), .val (.long q2), .second, .val (.long v2), .second] [(.int hwi)])) tq → Steps p.tables e below (s₁.setTop (entryFrame m #[(.ref a1), (.long q2)] 5)) tq := fun tq kq => pre14 tq (st15 _ kq)
      by_cases hc28 : hwi = (0 : Int32)
      · skip
        have pre17 : ∀ tq, Steps p.tables e below (T15.setTop (mkF m 31 #[.val (.ref a1), .val (.long q2), .second, .val (.long v2), .second] [])) tq → Steps p.tables e below (s₁.setTop (entryFrame m #[(.ref a1), (.long q2)] 5)) tq := by
          refine fun tq kq => pre16 tq ?_
          show Steps p.tables e below (T15.setTop (mkF m 28 #[.val (.ref a1), .val (.long q2), .second, .val (.long v2), .second] [(.int hwi)])) _
          refine XS.ifNo X15.here hx rfl (hb hby d8_28) rfl ((if0 _ _).trans (teq hc28).2) ?_
          exact kq
        obtain ⟨fs, hr, hrun, hended, hW, hsame⟩ := X15.leave (v := some (.int (1 : Int32))) (fun h => by rw [Bd.returns] at h; cases h)
        refine ⟨_, _, pre17 _ ?_, hrun, hended, _, _, rfl, ?_, ⟨_, rfl⟩, hW, hsame.mono (by decide) (by decide)⟩
        · skip
          show Steps p.tables e below (T15.setTop (mkF m 31 #[.val (.ref a1), .val (.long q2), .second, .val (.long v2), .second] [])) _
          refine XS.iconst X15.here hx rfl (hb hby d8_31) ?_
          show Steps p.tables e below (T15.setTop (mkF m 32 #[.val (.ref a1), .val (.long q2), .second, .val (.long v2), .second] [(.int (1 : Int32))])) _
          exact retI X15 hx Bd.returns (hb hby d8_32) hr
        · show Q8 Z a1 q2 tb ta hwi h0 n0 _ T15.heap _
          rw [e15]
          refine ⟨(1 : Int32), rfl, N0, rfl, ?_⟩
          have h2 := own_dbl hv_v2 hn.1 hn.2
          simp only [Int64.lt_iff_toInt_lt, ← Int64.toInt_inj, Int64.reduceToInt, Int32.lt_iff_toInt_lt, ← Int32.toInt_inj, Int32.reduceToInt, true_and, and_true, false_and, and_false, or_false, false_or, not_true_eq_false, not_false_eq_true, true_implies, false_implies] at hc12 hc21 hc28 ⊢ <;> omega
      · skip
        have pre18 : ∀ tq, Steps p.tables e below (T15.setTop (mkF m 33 #[.val (.ref a1), .val (.long q2), .second, .val (.long v2), .second] [])) tq → Steps p.tables e below (s₁.setTop (entryFrame m #[(.ref a1), (.long q2)] 5)) tq := by
          refine fun tq kq => pre16 tq ?_
          show Steps p.tables e below (T15.setTop (mkF m 28 #[.val (.ref a1), .val (.long q2), .second, .val (.long v2), .second] [(.int hwi)])) _
          refine XS.ifYes X15.here hx rfl (pc0 := 28) (pc' := 33) rfl (hb hby d8_28) rfl ((if0 _ _).trans (feq hc28).2) (by decide) (by decide) ?_
          exact kq
        have pre19 : ∀ tq, Steps p.tables e below (T15.setTop (mkF m 35 #[.val (.ref a1), .val (.long q2), .second, .val (.long v2), .second] [(.ref a1), (.long v2)])) tq → Steps p.tables e below (s₁.setTop (entryFrame m #[(.ref a1), (.long q2)] 5)) tq := by
          refine fun tq kq => pre18 tq ?_
          show Steps p.tables e below (T15.setTop (mkF m 33 #[.val (.ref a1), .val (.long q2), .second, .val (.long v2), .second] [])) _
          refine XS.lloadN X15.here hx rfl (hb hby d8_33) rfl ?_
          show Steps p.tables e below (T15.setTop (mkF m 34 #[.val (.ref a1), .val (.long q2), .second, .val (.long v2), .second] [(.long v2)])) _
          refine XS.aloadN X15.here hx rfl (hb hby d8_34) rfl rfl ?_
          exact kq
        obtain ⟨T20, X20, e20, st20⟩ := getF X15 hx hZ hown (host := "") (Or.inl (hw _ (List.mem_of_getElem? (i := 36) rfl))) Via.refl e15 F_twiceBelow_a1 (g := (mkF m 35 #[.val (.ref a1), .val (.long q2), .second, .val (.long v2), .second] [(.ref a1), (.long v2)])) rfl rfl (hb hby d8_35)
        have pre21 : ∀ tq, Steps p.tables e below (T20.setTop (mkF m 38 #[.val (.ref a1), .val (.long q2), .second, .val (.long v2), .second] [(.long tb), (.long v2)])) tq → Steps p.tables e below (s₁.setTop (entryFrame m #[(.ref a1), (.long q2)] 5)) tq := fun tq kq => pre19 tq (st20 _ kq)
        have pre22 : ∀ tq, Steps p.tables e below (T20.setTop (mkF m 39 #[.val (.ref a1), .val (.long q2), .second, .val (.long v2), .second] [(.int (lcmpW v2 tb))])) tq → Steps p.tables e below (s₁.setTop (entryFrame m #[(.ref a1), (.long q2)] 5)) tq := by
          refine fun tq kq => pre21 tq ?_
          show Steps p.tables e below (T20.setTop (mkF m 38 #[.val (.ref a1), .val (.long q2), .second, .val (.long v2), .second] [(.long tb), (.long v2)])) _
          refine XS.lcmp X20.here hx rfl (hb hby d8_38) rfl ?_
          exact kq
        by_cases hc39 : tb < v2
        · skip
          have pre23 : ∀ tq, Steps p.tables e below (T20.setTop (mkF m 58 #[.val (.ref a1), .val (.long q2), .second, .val (.long v2), .second] [])) tq → Steps p.tables e below (s₁.setTop (entryFrame m #[(.ref a1), (.long q2)] 5)) tq := by
            refine fun tq kq => pre22 tq ?_
            show Steps p.tables e below (T20.setTop (mkF m 39 #[.val (.ref a1), .val (.long q2), .second, .val (.long v2), .second] [(.int (lcmpW v2 tb))])) _
            refine XS.ifYes X20.here hx rfl (pc0 := 39) (pc' := 58) rfl (hb hby d8_39) rfl (jtlt hc39).2.2.1 (by decide) (by decide) ?_
            exact kq
          obtain ⟨fs, hr, hrun, hended, hW, hsame⟩ := X20.leave (v := some (.int (0 : Int32))) (fun h => by rw [Bd.returns] at h; cases h)
          refine ⟨_, _, pre23 _ ?_, hrun, hended, _, _, rfl, ?_, ⟨_, rfl⟩, hW, hsame.mono (by decide) (by decide)⟩
          · skip
            show Steps p.tables e below (T20.setTop (mkF m 58 #[.val (.ref a1), .val (.long q2), .second, .val (.long v2), .second] [])) _
            refine XS.iconst X20.here hx rfl (hb hby d8_58) ?_
            show Steps p.tables e below (T20.setTop (mkF m 59 #[.val (.ref a1), .val (.long q2), .second, .val (.long v2), .second] [(.int (0 : Int32))])) _
            refine XS.goto X20.here hx rfl (pc0 := 59) (pc' := 63) rfl (hb hby d8_59) (by decide) (by decide) ?_
            show Steps p.tables e below (T20.setTop (mkF m 63 #[.val (.ref a1), .val (.long q2), .second, .val (.long v2), .second] [(.int (0 : Int32))])) _
            exact retI X20 hx Bd.returns (hb hby d8_63) hr
          · show Q8 Z a1 q2 tb ta hwi h0 n0 _ T20.heap _
            rw [e20]
            refine ⟨(0 : Int32), rfl, N0, rfl, ?_⟩
            have h2 := own_dbl hv_v2 hn.1 hn.2
            simp only [Int64.lt_iff_toInt_lt, ← Int64.toInt_inj, Int64.reduceToInt, Int32.lt_iff_toInt_lt, ← Int32.toInt_inj, Int32.reduceToInt, true_and, and_true, false_and, and_false, or_false, false_or, not_true_eq_false, not_false_eq_true, true_implies, false_implies] at hc12 hc21 hc28 hc39 ⊢ <;> omega
        · skip
          have pre24 : ∀ tq, Steps p.tables e below (T20.setTop (mkF m 42 #[.val (.ref a1), .val (.long q2), .second, .val (.long v2), .second] [])) tq → Steps p.tables e below (s₁.setTop (entryFrame m #[(.ref a1), (.long q2)] 5)) tq := by
            refine fun tq kq => pre22 tq ?_
            show Steps p.tables e below (T20.setTop (mkF m 39 #[.val (.ref a1), .val (.long q2), .second, .val (.long v2), .second] [(.int (lcmpW v2 tb))])) _
            refine XS.ifNo X20.here hx rfl (hb hby d8_39) rfl (jflt hc39).2.2.1 ?_
            exact kq
          have pre25 : ∀ tq, Steps p.tables e below (T20.setTop (mkF m 44 #[.val (.ref a1), .val (.long q2), .second, .val (.long v2), .second] [(.ref a1), (.long v2)])) tq → Steps p.tables e below (s₁.setTop (entryFrame m #[(.ref a1), (.long q2)] 5)) tq := by
            refine fun tq kq => pre24 tq ?_
            show Steps p.tables e below (T20.setTop (mkF m 42 #[.val (.ref a1), .val (.long q2), .second, .val (.long v2), .second] [])) _
            refine XS.lloadN X20.here hx rfl (hb hby d8_42) rfl ?_
            show Steps p.tables e below (T20.setTop (mkF m 43 #[.val (.ref a1), .val (.long q2), .second, .val (.long v2), .second] [(.long v2)])) _
            refine XS.aloadN X20.here hx rfl (hb hby d8_43) rfl rfl ?_
            exact kq
          obtain ⟨T26, X26, e26, st26⟩ := getF X20 hx hZ hown (host := "") (Or.inl (hw _ (List.mem_of_getElem? (i := 36) rfl))) Via.refl e20 F_twiceBelow_a1 (g := (mkF m 44 #[.val (.ref a1), .val (.long q2), .second, .val (.long v2), .second] [(.ref a1), (.long v2)])) rfl rfl (hb hby d8_44)
          have pre27 : ∀ tq, Steps p.tables e below (T26.setTop (mkF m 47 #[.val (.ref a1), .val (.long q2), .second, .val (.long v2), .second] [(.long tb), (.long v2)])) tq → Steps p.tables e below (s₁.setTop (entryFrame m #[(.ref a1), (.long q2)] 5)) tq := fun tq kq => pre25 tq (st26 _ kq)
          have pre28 : ∀ tq, Steps p.tables e below (T26.setTop (mkF m 48 #[.val (.ref a1), .val (.long q2), .second, .val (.long v2), .second] [(.int (lcmpW v2 tb))])) tq → Steps p.tables e below (s₁.setTop (entryFrame m #[(.ref a1), (.long q2)] 5)) tq := by
            refine fun tq kq => pre27 tq ?_
            show Steps p.tables e below (T26.setTop (mkF m 47 #[.val (.ref a1), .val (.long q2), .second, .val (.long v2), .second] [(.long tb), (.long v2)])) _
            refine XS.lcmp X26.here hx rfl (hb hby d8_47) rfl ?_
            exact kq
          by_cases hc48 : v2 = tb
          · skip
            have pre29 : ∀ tq, Steps p.tables e below (T26.setTop (mkF m 51 #[.val (.ref a1), .val (.long q2), .second, .val (.long v2), .second] [])) tq → Steps p.tables e below (s₁.setTop (entryFrame m #[(.ref a1), (.long q2)] 5)) tq := by
              refine fun tq kq => pre28 tq ?_
              show Steps p.tables e below (T26.setTop (mkF m 48 #[.val (.ref a1), .val (.long q2), .second, .val (.long v2), .second] [(.int (lcmpW v2 tb))])) _
              refine XS.ifNo X26.here hx rfl (hb hby d8_48) rfl (jteq hc48).2 ?_
              exact kq
            have pre30 : ∀ tq, Steps p.tables e below (T26.setTop (mkF m 52 #[.val (.ref a1), .val (.long q2), .second, .val (.long v2), .second] [(.ref a1)])) tq → Steps p.tables e below (s₁.setTop (entryFrame m #[(.ref a1), (.long q2)] 5)) tq := by
              refine fun tq kq => pre29 tq ?_
              show Steps p.tables e below (T26.setTop (mkF m 51 #[.val (.ref a1), .val (.long q2), .second, .val (.long v2), .second] [])) _
              refine XS.aloadN X26.here hx rfl (hb hby d8_51) rfl rfl ?_
              exact kq
            obtain ⟨T31, X31, e31, st31⟩ := getF X26 hx hZ hown (host := "") (Or.inl (hw _ (List.mem_of_getElem? (i := 40) rfl))) Via.refl e26 F_halfwayIncluded_a1 (g := (mkF m 52 #[.val (.ref a1), .val (.long q2), .second, .val (.long v2), .second] [(.ref a1)])) rfl rfl (hb hby d8_52)
            have pre32 : ∀ tq, Steps p.tables e below (T31.setTop (mkF m 55 #[.val (.ref a1), .val (.long q2), .second, .val (.long v2), .second] [(.int hwi)])) tq → Steps p.tables e below (s₁.setTop (entryFrame m #[(.ref a1), (.long q2)] 5)) tq := fun tq kq => pre30 tq (st31 _ kq)
            by_cases hc55 : hwi = (0 : Int32)
            · skip
              have pre33 : ∀ tq, Steps p.tables e below (T31.setTop (mkF m 62 #[.val (.ref a1), .val (.long q2), .second, .val (.long v2), .second] [])) tq → Steps p.tables e below (s₁.setTop (entryFrame m #[(.ref a1), (.long q2)] 5)) tq := by
                refine fun tq kq => pre32 tq ?_
                show Steps p.tables e below (T31.setTop (mkF m 55 #[.val (.ref a1), .val (.long q2), .second, .val (.long v2), .second] [(.int hwi)])) _
                refine XS.ifYes X31.here hx rfl (pc0 := 55) (pc' := 62) rfl (hb hby d8_55) rfl ((if0 _ _).trans (teq hc55).1) (by decide) (by decide) ?_
                exact kq
              obtain ⟨fs, hr, hrun, hended, hW, hsame⟩ := X31.leave (v := some (.int (-1 : Int32))) (fun h => by rw [Bd.returns] at h; cases h)
              refine ⟨_, _, pre33 _ ?_, hrun, hended, _, _, rfl, ?_, ⟨_, rfl⟩, hW, hsame.mono (by decide) (by decide)⟩
              · skip
                show Steps p.tables e below (T31.setTop (mkF m 62 #[.val (.ref a1), .val (.long q2), .second, .val (.long v2), .second] [])) _
                refine XS.iconst X31.here hx rfl (hb hby d8_62) ?_
                show Steps p.tables e below (T31.setTop (mkF m 63 #[.val (.ref a1), .val (.long q2), .second, .val (.long v2), .second] [(.int (-1 : Int32))])) _
                exact retI X31 hx Bd.returns (hb hby d8_63) hr
              · show Q8 Z a1 q2 tb ta hwi h0 n0 _ T31.heap _
                rw [e31]
                refine ⟨(-1 : Int32), rfl, N0, rfl, ?_⟩
                have h2 := own_dbl hv_v2 hn.1 hn.2
                simp only [Int64.lt_iff_toInt_lt, ← Int64.toInt_inj, Int64.reduceToInt, Int32.lt_iff_toInt_lt, ← Int32.toInt_inj, Int32.reduceToInt, true_and, and_true, false_and, and_false, or_false, false_or, not_true_eq_false, not_false_eq_true, true_implies, false_implies] at hc12 hc21 hc28 hc39 hc48 hc55 ⊢ <;> omega
            · skip
              have pre34 : ∀ tq, Steps p.tables e below (T31.setTop (mkF m 58 #[.val (.ref a1), .val (.long q2), .second, .val (.long v2), .second] [])) tq → Steps p.tables e below (s₁.setTop (entryFrame m #[(.ref a1), (.long q2)] 5)) tq := by
                refine fun tq kq => pre32 tq ?_
                show Steps p.tables e below (T31.setTop (mkF m 55 #[.val (.ref a1), .val (.long q2), .second, .val (.long v2), .second] [(.int hwi)])) _
                refine XS.ifNo X31.here hx rfl (hb hby d8_55) rfl ((if0 _ _).trans (feq hc55).1) ?_
                exact kq
              obtain ⟨fs, hr, hrun, hended, hW, hsame⟩ := X31.leave (v := some (.int (0 : Int32))) (fun h => by rw [Bd.returns] at h; cases h)
              refine ⟨_, _, pre34 _ ?_, hrun, hended, _, _, rfl, ?_, ⟨_, rfl⟩, hW, hsame.mono (by decide) (by decide)⟩
              · skip
                show Steps p.tables e below (T31.setTop (mkF m 58 #[.val (.ref a1), .val (.long q2), .second, .val (.long v2), .second] [])) _
                refine XS.iconst X31.here hx rfl (hb hby d8_58) ?_
                show Steps p.tables e below (T31.setTop (mkF m 59 #[.val (.ref a1), .val (.long q2), .second, .val (.long v2), .second] [(.int (0 : Int32))])) _
                refine XS.goto X31.here hx rfl (pc0 := 59) (pc' := 63) rfl (hb hby d8_59) (by decide) (by decide) ?_
                show Steps p.tables e below (T31.setTop (mkF m 63 #[.val (.ref a1), .val (.long q2), .second, .val (.long v2), .second] [(.int (0 : Int32))])) _
                exact retI X31 hx Bd.returns (hb hby d8_63) hr
              · show Q8 Z a1 q2 tb ta hwi h0 n0 _ T31.heap _
                rw [e31]
                refine ⟨(0 : Int32), rfl, N0, rfl, ?_⟩
                have h2 := own_dbl hv_v2 hn.1 hn.2
                simp only [Int64.lt_iff_toInt_lt, ← Int64.toInt_inj, Int64.reduceToInt, Int32.lt_iff_toInt_lt, ← Int32.toInt_inj, Int32.reduceToInt, true_and, and_true, false_and, and_false, or_false, false_or, not_true_eq_false, not_false_eq_true, true_implies, false_implies] at hc12 hc21 hc28 hc39 hc48 hc55 ⊢ <;> omega
          · skip
            have pre35 : ∀ tq, Steps p.tables e below (T26.setTop (mkF m 62 #[.val (.ref a1), .val (.long q2), .second, .val (.long v2), .second] [])) tq → Steps p.tables e below (s₁.setTop (entryFrame m #[(.ref a1), (.long q2)] 5)) tq := by
              refine fun tq kq => pre28 tq ?_
              show Steps p.tables e below (T26.setTop (mkF m 48 #[.val (.ref a1), .val (.long q2), .second, .val (.long v2), .second] [(.int (lcmpW v2 tb))])) _
              refine XS.ifYes X26.here hx rfl (pc0 := 48) (pc' := 62) rfl (hb hby d8_48) rfl (jfeq hc48).2 (by decide) (by decide) ?_
              exact kq
            obtain ⟨fs, hr, hrun, hended, hW, hsame⟩ := X26.leave (v := some (.int (-1 : Int32))) (fun h => by rw [Bd.returns] at h; cases h)
            refine ⟨_, _, pre35 _ ?_, hrun, hended, _, _, rfl, ?_, ⟨_, rfl⟩, hW, hsame.mono (by decide) (by decide)⟩
            · skip
              show Steps p.tables e below (T26.setTop (mkF m 62 #[.val (.ref a1), .val (.long q2), .second, .val (.long v2), .second] [])) _
              refine XS.iconst X26.here hx rfl (hb hby d8_62) ?_
              show Steps p.tables e below (T26.setTop (mkF m 63 #[.val (.ref a1), .val (.long q2), .second, .val (.long v2), .second] [(.int (-1 : Int32))])) _
              exact retI X26 hx Bd.returns (hb hby d8_63) hr
            · show Q8 Z a1 q2 tb ta hwi h0 n0 _ T26.heap _
              rw [e26]
              refine ⟨(-1 : Int32), rfl, N0, rfl, ?_⟩
              have h2 := own_dbl hv_v2 hn.1 hn.2
              simp only [Int64.lt_iff_toInt_lt, ← Int64.toInt_inj, Int64.reduceToInt, Int32.lt_iff_toInt_lt, ← Int32.toInt_inj, Int32.reduceToInt, true_and, and_true, false_and, and_false, or_false, false_or, not_true_eq_false, not_false_eq_true, true_implies, false_implies] at hc12 hc21 hc28 hc39 hc48 ⊢ <;> omega
    · skip
      have pre36 : ∀ tq, Steps p.tables e below (T10.setTop (mkF m 33 #[.val (.ref a1), .val (.long q2), .second, .val (.long v2), .second] [])) tq → Steps p.tables e below (s₁.setTop (entryFrame m #[(.ref a1), (.long q2)] 5)) tq := by
        refine fun tq kq => pre12 tq ?_
        show Steps p.tables e below (T10.setTop (mkF m 21 #[.val (.ref a1), .val (.long q2), .second, .val (.long v2), .second] [(.int (lcmpW v2 ta))])) _
        refine XS.ifYes X10.here hx rfl (pc0 := 21) (pc' := 33) rfl (hb hby d8_21) rfl (jfeq hc21).2 (by decide) (by decide) ?_
        exact kq
      have pre37 : ∀ tq, Steps p.tables e below (T10.setTop (mkF m 35 #[.val (.ref a1), .val (.long q2), .second, .val (.long v2), .second] [(.ref a1), (.long v2)])) tq → Steps p.tables e below (s₁.setTop (entryFrame m #[(.ref a1), (.long q2)] 5)) tq := by
        refine fun tq kq => pre36 tq ?_
        show Steps p.tables e below (T10.setTop (mkF m 33 #[.val (.ref a1), .val (.long q2), .second, .val (.long v2), .second] [])) _
        refine XS.lloadN X10.here hx rfl (hb hby d8_33) rfl ?_
        show Steps p.tables e below (T10.setTop (mkF m 34 #[.val (.ref a1), .val (.long q2), .second, .val (.long v2), .second] [(.long v2)])) _
        refine XS.aloadN X10.here hx rfl (hb hby d8_34) rfl rfl ?_
        exact kq
      obtain ⟨T38, X38, e38, st38⟩ := getF X10 hx hZ hown (host := "") (Or.inl (hw _ (List.mem_of_getElem? (i := 36) rfl))) Via.refl e10 F_twiceBelow_a1 (g := (mkF m 35 #[.val (.ref a1), .val (.long q2), .second, .val (.long v2), .second] [(.ref a1), (.long v2)])) rfl rfl (hb hby d8_35)
      have pre39 : ∀ tq, Steps p.tables e below (T38.setTop (mkF m 38 #[.val (.ref a1), .val (.long q2), .second, .val (.long v2), .second] [(.long tb), (.long v2)])) tq → Steps p.tables e below (s₁.setTop (entryFrame m #[(.ref a1), (.long q2)] 5)) tq := fun tq kq => pre37 tq (st38 _ kq)
      have pre40 : ∀ tq, Steps p.tables e below (T38.setTop (mkF m 39 #[.val (.ref a1), .val (.long q2), .second, .val (.long v2), .second] [(.int (lcmpW v2 tb))])) tq → Steps p.tables e below (s₁.setTop (entryFrame m #[(.ref a1), (.long q2)] 5)) tq := by
        refine fun tq kq => pre39 tq ?_
        show Steps p.tables e below (T38.setTop (mkF m 38 #[.val (.ref a1), .val (.long q2), .second, .val (.long v2), .second] [(.long tb), (.long v2)])) _
        refine XS.lcmp X38.here hx rfl (hb hby d8_38) rfl ?_
        exact kq
      by_cases hc39 : tb < v2
      · skip
        have pre41 : ∀ tq, Steps p.tables e below (T38.setTop (mkF m 58 #[.val (.ref a1), .val (.long q2), .second, .val (.long v2), .second] [])) tq → Steps p.tables e below (s₁.setTop (entryFrame m #[(.ref a1), (.long q2)] 5)) tq := by
          refine fun tq kq => pre40 tq ?_
          show Steps p.tables e below (T38.setTop (mkF m 39 #[.val (.ref a1), .val (.long q2), .second, .val (.long v2), .second] [(.int (lcmpW v2 tb))])) _
          refine XS.ifYes X38.here hx rfl (pc0 := 39) (pc' := 58) rfl (hb hby d8_39) rfl (jtlt hc39).2.2.1 (by decide) (by decide) ?_
          exact kq
        obtain ⟨fs, hr, hrun, hended, hW, hsame⟩ := X38.leave (v := some (.int (0 : Int32))) (fun h => by rw [Bd.returns] at h; cases h)
        refine ⟨_, _, pre41 _ ?_, hrun, hended, _, _, rfl, ?_, ⟨_, rfl⟩, hW, hsame.mono (by decide) (by decide)⟩
        · skip
          show Steps p.tables e below (T38.setTop (mkF m 58 #[.val (.ref a1), .val (.long q2), .second, .val (.long v2), .second] [])) _
          refine XS.iconst X38.here hx rfl (hb hby d8_58) ?_
          show Steps p.tables e below (T38.setTop (mkF m 59 #[.val (.ref a1), .val (.long q2), .second, .val (.long v2), .second] [(.int (0 : Int32))])) _
          refine XS.goto X38.here hx rfl (pc0 := 59) (pc' := 63) rfl (hb hby d8_59) (by decide) (by decide) ?_
          show Steps p.tables e below (T38.setTop (mkF m 63 #[.val (.ref a1), .val (.long q2), .second, .val (.long v2), .second] [(.int (0 : Int32))])) _
          exact retI X38 hx Bd.returns (hb hby d8_63) hr
        · show Q8 Z a1 q2 tb ta hwi h0 n0 _ T38.heap _
          rw [e38]
          refine ⟨(0 : Int32), rfl, N0, rfl, ?_⟩
          have h2 := own_dbl hv_v2 hn.1 hn.2
          simp only [Int64.lt_iff_toInt_lt, ← Int64.toInt_inj, Int64.reduceToInt, Int32.lt_iff_toInt_lt, ← Int32.toInt_inj, Int32.reduceToInt, true_and, and_true, false_and, and_false, or_false, false_or, not_true_eq_false, not_false_eq_true, true_implies, false_implies] at hc12 hc21 hc39 ⊢ <;> omega
      · skip
        have pre42 : ∀ tq, Steps p.tables e below (T38.setTop (mkF m 42 #[.val (.ref a1), .val (.long q2), .second, .val (.long v2), .second] [])) tq → Steps p.tables e below (s₁.setTop (entryFrame m #[(.ref a1), (.long q2)] 5)) tq := by
          refine fun tq kq => pre40 tq ?_
          show Steps p.tables e below (T38.setTop (mkF m 39 #[.val (.ref a1), .val (.long q2), .second, .val (.long v2), .second] [(.int (lcmpW v2 tb))])) _
          refine XS.ifNo X38.here hx rfl (hb hby d8_39) rfl (jflt hc39).2.2.1 ?_
          exact kq
        have pre43 : ∀ tq, Steps p.tables e below (T38.setTop (mkF m 44 #[.val (.ref a1), .val (.long q2), .second, .val (.long v2), .second] [(.ref a1), (.long v2)])) tq → Steps p.tables e below (s₁.setTop (entryFrame m #[(.ref a1), (.long q2)] 5)) tq := by
          refine fun tq kq => pre42 tq ?_
          show Steps p.tables e below (T38.setTop (mkF m 42 #[.val (.ref a1), .val (.long q2), .second, .val (.long v2), .second] [])) _
          refine XS.lloadN X38.here hx rfl (hb hby d8_42) rfl ?_
          show Steps p.tables e below (T38.setTop (mkF m 43 #[.val (.ref a1), .val (.long q2), .second, .val (.long v2), .second] [(.long v2)])) _
          refine XS.aloadN X38.here hx rfl (hb hby d8_43) rfl rfl ?_
          exact kq
        obtain ⟨T44, X44, e44, st44⟩ := getF X38 hx hZ hown (host := "") (Or.inl (hw _ (List.mem_of_getElem? (i := 36) rfl))) Via.refl e38 F_twiceBelow_a1 (g := (mkF m 44 #[.val (.ref a1), .val (.long q2), .second, .val (.long v2), .second] [(.ref a1), (.long v2)])) rfl rfl (hb hby d8_44)
        have pre45 : ∀ tq, Steps p.tables e below (T44.setTop (mkF m 47 #[.val (.ref a1), .val (.long q2), .second, .val (.long v2), .second] [(.long tb), (.long v2)])) tq → Steps p.tables e below (s₁.setTop (entryFrame m #[(.ref a1), (.long q2)] 5)) tq := fun tq kq => pre43 tq (st44 _ kq)
        have pre46 : ∀ tq, Steps p.tables e below (T44.setTop (mkF m 48 #[.val (.ref a1), .val (.long q2), .second, .val (.long v2), .second] [(.int (lcmpW v2 tb))])) tq → Steps p.tables e below (s₁.setTop (entryFrame m #[(.ref a1), (.long q2)] 5)) tq := by
          refine fun tq kq => pre45 tq ?_
          show Steps p.tables e below (T44.setTop (mkF m 47 #[.val (.ref a1), .val (.long q2), .second, .val (.long v2), .second] [(.long tb), (.long v2)])) _
          refine XS.lcmp X44.here hx rfl (hb hby d8_47) rfl ?_
          exact kq
        by_cases hc48 : v2 = tb
        · skip
          have pre47 : ∀ tq, Steps p.tables e below (T44.setTop (mkF m 51 #[.val (.ref a1), .val (.long q2), .second, .val (.long v2), .second] [])) tq → Steps p.tables e below (s₁.setTop (entryFrame m #[(.ref a1), (.long q2)] 5)) tq := by
            refine fun tq kq => pre46 tq ?_
            show Steps p.tables e below (T44.setTop (mkF m 48 #[.val (.ref a1), .val (.long q2), .second, .val (.long v2), .second] [(.int (lcmpW v2 tb))])) _
            refine XS.ifNo X44.here hx rfl (hb hby d8_48) rfl (jteq hc48).2 ?_
            exact kq
          have pre48 : ∀ tq, Steps p.tables e below (T44.setTop (mkF m 52 #[.val (.ref a1), .val (.long q2), .second, .val (.long v2), .second] [(.ref a1)])) tq → Steps p.tables e below (s₁.setTop (entryFrame m #[(.ref a1), (.long q2)] 5)) tq := by
            refine fun tq kq => pre47 tq ?_
            show Steps p.tables e below (T44.setTop (mkF m 51 #[.val (.ref a1), .val (.long q2), .second, .val (.long v2), .second] [])) _
            refine XS.aloadN X44.here hx rfl (hb hby d8_51) rfl rfl ?_
            exact kq
          obtain ⟨T49, X49, e49, st49⟩ := getF X44 hx hZ hown (host := "") (Or.inl (hw _ (List.mem_of_getElem? (i := 40) rfl))) Via.refl e44 F_halfwayIncluded_a1 (g := (mkF m 52 #[.val (.ref a1), .val (.long q2), .second, .val (.long v2), .second] [(.ref a1)])) rfl rfl (hb hby d8_52)
          have pre50 : ∀ tq, Steps p.tables e below (T49.setTop (mkF m 55 #[.val (.ref a1), .val (.long q2), .second, .val (.long v2), .second] [(.int hwi)])) tq → Steps p.tables e below (s₁.setTop (entryFrame m #[(.ref a1), (.long q2)] 5)) tq := fun tq kq => pre48 tq (st49 _ kq)
          by_cases hc55 : hwi = (0 : Int32)
          · skip
            have pre51 : ∀ tq, Steps p.tables e below (T49.setTop (mkF m 62 #[.val (.ref a1), .val (.long q2), .second, .val (.long v2), .second] [])) tq → Steps p.tables e below (s₁.setTop (entryFrame m #[(.ref a1), (.long q2)] 5)) tq := by
              refine fun tq kq => pre50 tq ?_
              show Steps p.tables e below (T49.setTop (mkF m 55 #[.val (.ref a1), .val (.long q2), .second, .val (.long v2), .second] [(.int hwi)])) _
              refine XS.ifYes X49.here hx rfl (pc0 := 55) (pc' := 62) rfl (hb hby d8_55) rfl ((if0 _ _).trans (teq hc55).1) (by decide) (by decide) ?_
              exact kq
            obtain ⟨fs, hr, hrun, hended, hW, hsame⟩ := X49.leave (v := some (.int (-1 : Int32))) (fun h => by rw [Bd.returns] at h; cases h)
            refine ⟨_, _, pre51 _ ?_, hrun, hended, _, _, rfl, ?_, ⟨_, rfl⟩, hW, hsame.mono (by decide) (by decide)⟩
            · skip
              show Steps p.tables e below (T49.setTop (mkF m 62 #[.val (.ref a1), .val (.long q2), .second, .val (.long v2), .second] [])) _
              refine XS.iconst X49.here hx rfl (hb hby d8_62) ?_
              show Steps p.tables e below (T49.setTop (mkF m 63 #[.val (.ref a1), .val (.long q2), .second, .val (.long v2), .second] [(.int (-1 : Int32))])) _
              exact retI X49 hx Bd.returns (hb hby d8_63) hr
            · show Q8 Z a1 q2 tb ta hwi h0 n0 _ T49.heap _
              rw [e49]
              refine ⟨(-1 : Int32), rfl, N0, rfl, ?_⟩
              have h2 := own_dbl hv_v2 hn.1 hn.2
              simp only [Int64.lt_iff_toInt_lt, ← Int64.toInt_inj, Int64.reduceToInt, Int32.lt_iff_toInt_lt, ← Int32.toInt_inj, Int32.reduceToInt, true_and, and_true, false_and, and_false, or_false, false_or, not_true_eq_false, not_false_eq_true, true_implies, false_implies] at hc12 hc21 hc39 hc48 hc55 ⊢ <;> omega
          · skip
            have pre52 : ∀ tq, Steps p.tables e below (T49.setTop (mkF m 58 #[.val (.ref a1), .val (.long q2), .second, .val (.long v2), .second] [])) tq → Steps p.tables e below (s₁.setTop (entryFrame m #[(.ref a1), (.long q2)] 5)) tq := by
              refine fun tq kq => pre50 tq ?_
              show Steps p.tables e below (T49.setTop (mkF m 55 #[.val (.ref a1), .val (.long q2), .second, .val (.long v2), .second] [(.int hwi)])) _
              refine XS.ifNo X49.here hx rfl (hb hby d8_55) rfl ((if0 _ _).trans (feq hc55).1) ?_
              exact kq
            obtain ⟨fs, hr, hrun, hended, hW, hsame⟩ := X49.leave (v := some (.int (0 : Int32))) (fun h => by rw [Bd.returns] at h; cases h)
            refine ⟨_, _, pre52 _ ?_, hrun, hended, _, _, rfl, ?_, ⟨_, rfl⟩, hW, hsame.mono (by decide) (by decide)⟩
            · skip
              show Steps p.tables e below (T49.setTop (mkF m 58 #[.val (.ref a1), .val (.long q2), .second, .val (.long v2), .second] [])) _
              refine XS.iconst X49.here hx rfl (hb hby d8_58) ?_
              show Steps p.tables e below (T49.setTop (mkF m 59 #[.val (.ref a1), .val (.long q2), .second, .val (.long v2), .second] [(.int (0 : Int32))])) _
              refine XS.goto X49.here hx rfl (pc0 := 59) (pc' := 63) rfl (hb hby d8_59) (by decide) (by decide) ?_
              show Steps p.tables e below (T49.setTop (mkF m 63 #[.val (.ref a1), .val (.long q2), .second, .val (.long v2), .second] [(.int (0 : Int32))])) _
              exact retI X49 hx Bd.returns (hb hby d8_63) hr
            · show Q8 Z a1 q2 tb ta hwi h0 n0 _ T49.heap _
              rw [e49]
              refine ⟨(0 : Int32), rfl, N0, rfl, ?_⟩
              have h2 := own_dbl hv_v2 hn.1 hn.2
              simp only [Int64.lt_iff_toInt_lt, ← Int64.toInt_inj, Int64.reduceToInt, Int32.lt_iff_toInt_lt, ← Int32.toInt_inj, Int32.reduceToInt, true_and, and_true, false_and, and_false, or_false, false_or, not_true_eq_false, not_false_eq_true, true_implies, false_implies] at hc12 hc21 hc39 hc48 hc55 ⊢ <;> omega
        · skip
          have pre53 : ∀ tq, Steps p.tables e below (T44.setTop (mkF m 62 #[.val (.ref a1), .val (.long q2), .second, .val (.long v2), .second] [])) tq → Steps p.tables e below (s₁.setTop (entryFrame m #[(.ref a1), (.long q2)] 5)) tq := by
            refine fun tq kq => pre46 tq ?_
            show Steps p.tables e below (T44.setTop (mkF m 48 #[.val (.ref a1), .val (.long q2), .second, .val (.long v2), .second] [(.int (lcmpW v2 tb))])) _
            refine XS.ifYes X44.here hx rfl (pc0 := 48) (pc' := 62) rfl (hb hby d8_48) rfl (jfeq hc48).2 (by decide) (by decide) ?_
            exact kq
          obtain ⟨fs, hr, hrun, hended, hW, hsame⟩ := X44.leave (v := some (.int (-1 : Int32))) (fun h => by rw [Bd.returns] at h; cases h)
          refine ⟨_, _, pre53 _ ?_, hrun, hended, _, _, rfl, ?_, ⟨_, rfl⟩, hW, hsame.mono (by decide) (by decide)⟩
          · skip
            show Steps p.tables e below (T44.setTop (mkF m 62 #[.val (.ref a1), .val (.long q2), .second, .val (.long v2), .second] [])) _
            refine XS.iconst X44.here hx rfl (hb hby d8_62) ?_
            show Steps p.tables e below (T44.setTop (mkF m 63 #[.val (.ref a1), .val (.long q2), .second, .val (.long v2), .second] [(.int (-1 : Int32))])) _
            exact retI X44 hx Bd.returns (hb hby d8_63) hr
          · show Q8 Z a1 q2 tb ta hwi h0 n0 _ T44.heap _
            rw [e44]
            refine ⟨(-1 : Int32), rfl, N0, rfl, ?_⟩
            have h2 := own_dbl hv_v2 hn.1 hn.2
            simp only [Int64.lt_iff_toInt_lt, ← Int64.toInt_inj, Int64.reduceToInt, Int32.lt_iff_toInt_lt, ← Int32.toInt_inj, Int32.reduceToInt, true_and, and_true, false_and, and_false, or_false, false_or, not_true_eq_false, not_false_eq_true, true_implies, false_implies] at hc12 hc21 hc39 hc48 ⊢ <;> omega
/-! body 0 -/
theorem pn_0 : plainName "com/example/partwise/partwise/storage/DecimalRangeSidePinLaw" = true := by first | (simp [plainName, overriddenIn]; done) | decide +kernel
theorem pd0_0 : parseMethodDescriptor "(DI)V" = some ⟨[.double, .int], none⟩ := by decide +kernel
theorem pd0_1 : parseMethodDescriptor "(J)I" = some ⟨[.long], some .int⟩ := by decide +kernel
theorem ef_0 (m : MethodId) (q1 : Int64) (p2 : Int32) (p3 : Int32) (q4 : Int64) : entryFrame m #[(.long q1), (.int p2), (.int p3), (.long q4)] maxLocals = mkF m 0 #[.val (.long q1), .second, .val (.int p2), .val (.int p3), .val (.long q4), .second, .unset, .unset, .unset, .unset, .unset, .unset, .unset, .unset, .unset, .unset, .unset, .unset, .unset, .unset, .unset, .unset, .unset, .unset] [] := by first | (simp [entryFrame, mkF, argsToLocals, Value.category, maxLocals]; done) | rfl
def Q0 (Z : State) (q1 : Int64) (p2 : Int32) (p3 : Int32) (q4 : Int64) (sF : Addr) (kF : ClassId) (h0 : Heap) (n0 : Nat) (v : Option Value) (h : Heap) (L : List Loc) : Prop := v = some (.int 1) ∧ Fr n0 L
set_option maxRecDepth 65536 in
set_option maxHeartbeats 40000000 in
theorem rm0 (l : Launch) (Z : State) (a0 : Array Value) (hw : ∀ d ∈ tables_1, d.before a0 Z = true) (ws : List Jvm.Cond) (q1 : Int64) (p2 : Int32) (p3 : Int32) (q4 : Int64) (sF : Addr) (kF : ClassId) (h0 : Heap) (n0 : Nat) (Z0 : n0 ≤ h0.size) (S_FIVES : Sta Z h0 "com/example/partwise/partwise/storage/DecimalRange" "FIVES" "[J" (.ref sF)) (V_sF : Arv Z h0 sF kF .long (28 : Int32) [(.long (1 : Int64)), (.long (5 : Int64)), (.long (25 : Int64)), (.long (125 : Int64)), (.long (625 : Int64)), (.long (3125 : Int64)), (.long (15625 : Int64)), (.long (78125 : Int64)), (.long (390625 : Int64)), (.long (1953125 : Int64)), (.long (9765625 : Int64)), (.long (48828125 : Int64)), (.long (244140625 : Int64)), (.long (1220703125 : Int64)), (.long (6103515625 : Int64)), (.long (30517578125 : Int64)), (.long (152587890625 : Int64)), (.long (762939453125 : Int64)), (.long (3814697265625 : Int64)), (.long (19073486328125 : Int64)), (.long (95367431640625 : Int64)), (.long (476837158203125 : Int64)), (.long (2384185791015625 : Int64)), (.long (11920928955078125 : Int64)), (.long (59604644775390625 : Int64)), (.long (298023223876953125 : Int64)), (.long (1490116119384765625 : Int64)), (.long (7450580596923828125 : Int64))] (.long (0 : Int64))) :
    MetFree l x (head1 (Jvm.Cond.code x code maxLocals ret :: ws) room_1) (fun a U => a = #[(.long q1), (.int p2), (.int p3), (.long q4)] ∧ Z.Warmed39 U.vm ∧ U.heap = h0) (fun _ _ _ _ _ => True) (fun _ U o U' => ∃ v L, o = .returned v ∧ Q0 Z q1 p2 p3 q4 sF kF h0 n0 v U'.heap L ∧ FrameEnd U o U' L room_1.cells room_1.slots) := by
  refine MetFree.of_bodySF (plainFor_of_name pn_0) hisR ?_
  intro p e s m args below meth c s₁ Bd hml0 hP hK
  obtain ⟨rfl, hZ, hh⟩ := hP
  have hx := Bd.exec
  have hby := Bd.bytes
  have hml : c.maxLocals = 24 := hml0
  have hown : s.vm.findClass "com/example/partwise/partwise/storage/DecimalRangeSidePinLaw" = some m.cls := findClass_of_methodNamed Bd.named
  have hnm := (name_of_methodNamed Bd.named Bd.method).1
  have X0 : Stand p l e room_1 s m #[(.long q1), (.int p2), (.int p3), (.long q4)] below meth c s₁ [] 0 0 := Stand.of_body Bd
  have e0 : s₁.heap = h0 := by rw [← hh, Bd.state]; rfl
  have N0 := Fr.nil n0
  have pre0 : ∀ tq, Steps p.tables e below (s₁.setTop (mkF m 0 #[.val (.long q1), .second, .val (.int p2), .val (.int p3), .val (.long q4), .second, .unset, .unset, .unset, .unset, .unset, .unset, .unset, .unset, .unset, .unset, .unset, .unset, .unset, .unset, .unset, .unset, .unset, .unset] [])) tq → Steps p.tables e below (s₁.setTop (entryFrame m #[(.long q1), (.int p2), (.int p3), (.long q4)] maxLocals)) tq := fun tq kq => castTop (ef_0 m q1 p2 p3 q4) kq
  obtain ⟨v2, hv_v2, pre1⟩ : ∃ v2 : Int64, v2 = ((4503599627370496 : Int64) ||| (q1 &&& (4503599627370495 : Int64))) ∧ (∀ tq, Steps p.tables e below (s₁.setTop (mkF m 16 #[.val (.long q1), .second, .val (.int p2), .val (.int p3), .val (.long q4), .second, .val (.long (4503599627370496 : Int64)), .second, .val (.long v2), .second, .unset, .unset, .unset, .unset, .unset, .unset, .unset, .unset, .unset, .unset, .unset, .unset, .unset, .unset] [])) tq → Steps p.tables e below (s₁.setTop (entryFrame m #[(.long q1), (.int p2), (.int p3), (.long q4)] maxLocals)) tq) := by
    refine ⟨_, rfl, fun tq kq => pre0 tq ?_⟩
    show Steps p.tables e below (s₁.setTop (mkF m 0 #[.val (.long q1), .second, .val (.int p2), .val (.int p3), .val (.long q4), .second, .unset, .unset, .unset, .unset, .unset, .unset, .unset, .unset, .unset, .unset, .unset, .unset, .unset, .unset, .unset, .unset, .unset, .unset] [])) _
    refine X0.ldc2Long hx hown (mvT hZ (hw _ (List.mem_of_getElem? (i := 0) rfl))) (g := (mkF m 0 #[.val (.long q1), .second, .val (.int p2), .val (.int p3), .val (.long q4), .second, .unset, .unset, .unset, .unset, .unset, .unset, .unset, .unset, .unset, .unset, .unset, .unset, .unset, .unset, .unset, .unset, .unset, .unset] [])) rfl (hb hby at_0) _ ?_
    show Steps p.tables e below (s₁.setTop (mkF m 3 #[.val (.long q1), .second, .val (.int p2), .val (.int p3), .val (.long q4), .second, .unset, .unset, .unset, .unset, .unset, .unset, .unset, .unset, .unset, .unset, .unset, .unset, .unset, .unset, .unset, .unset, .unset, .unset] [(.long (4503599627370496 : Int64))])) _
    refine XS.lstore X0.here hx rfl (hb hby at_3) rfl (l' := #[.val (.long q1), .second, .val (.int p2), .val (.int p3), .val (.long q4), .second, .val (.long (4503599627370496 : Int64)), .second, .unset, .unset, .unset, .unset, .unset, .unset, .unset, .unset, .unset, .unset, .unset, .unset, .unset, .unset, .unset, .unset]) rfl ?_
    show Steps p.tables e below (s₁.setTop (mkF m 5 #[.val (.long q1), .second, .val (.int p2), .val (.int p3), .val (.long q4), .second, .val (.long (4503599627370496 : Int64)), .second, .unset, .unset, .unset, .unset, .unset, .unset, .unset, .unset, .unset, .unset, .unset, .unset, .unset, .unset, .unset, .unset] [])) _
    refine XS.lload X0.here hx rfl (hb hby at_5) rfl ?_
    show Steps p.tables e below (s₁.setTop (mkF m 7 #[.val (.long q1), .second, .val (.int p2), .val (.int p3), .val (.long q4), .second, .val (.long (4503599627370496 : Int64)), .second, .unset, .unset, .unset, .unset, .unset, .unset, .unset, .unset, .unset, .unset, .unset, .unset, .unset, .unset, .unset, .unset] [(.long (4503599627370496 : Int64))])) _
    refine XS.lloadN X0.here hx rfl (hb hby at_7) rfl ?_
    show Steps p.tables e below (s₁.setTop (mkF m 8 #[.val (.long q1), .second, .val (.int p2), .val (.int p3), .val (.long q4), .second, .val (.long (4503599627370496 : Int64)), .second, .unset, .unset, .unset, .unset, .unset, .unset, .unset, .unset, .unset, .unset, .unset, .unset, .unset, .unset, .unset, .unset] [(.long q1), (.long (4503599627370496 : Int64))])) _
    refine XS.lload X0.here hx rfl (hb hby at_8) rfl ?_
    show Steps p.tables e below (s₁.setTop (mkF m 10 #[.val (.long q1), .second, .val (.int p2), .val (.int p3), .val (.long q4), .second, .val (.long (4503599627370496 : Int64)), .second, .unset, .unset, .unset, .unset, .unset, .unset, .unset, .unset, .unset, .unset, .unset, .unset, .unset, .unset, .unset, .unset] [(.long (4503599627370496 : Int64)), (.long q1), (.long (4503599627370496 : Int64))])) _
    refine XS.lconst X0.here hx rfl (hb hby at_10) ?_
    show Steps p.tables e below (s₁.setTop (mkF m 11 #[.val (.long q1), .second, .val (.int p2), .val (.int p3), .val (.long q4), .second, .val (.long (4503599627370496 : Int64)), .second, .unset, .unset, .unset, .unset, .unset, .unset, .unset, .unset, .unset, .unset, .unset, .unset, .unset, .unset, .unset, .unset] [(.long (1 : Int64)), (.long (4503599627370496 : Int64)), (.long q1), (.long (4503599627370496 : Int64))])) _
    refine XS.lsub X0.here hx rfl (hb hby at_11) rfl ?_
    show Steps p.tables e below (s₁.setTop (mkF m 12 #[.val (.long q1), .second, .val (.int p2), .val (.int p3), .val (.long q4), .second, .val (.long (4503599627370496 : Int64)), .second, .unset, .unset, .unset, .unset, .unset, .unset, .unset, .unset, .unset, .unset, .unset, .unset, .unset, .unset, .unset, .unset] [(.long (4503599627370495 : Int64)), (.long q1), (.long (4503599627370496 : Int64))])) _
    refine XS.land X0.here hx rfl (hb hby at_12) rfl ?_
    show Steps p.tables e below (s₁.setTop (mkF m 13 #[.val (.long q1), .second, .val (.int p2), .val (.int p3), .val (.long q4), .second, .val (.long (4503599627370496 : Int64)), .second, .unset, .unset, .unset, .unset, .unset, .unset, .unset, .unset, .unset, .unset, .unset, .unset, .unset, .unset, .unset, .unset] [(.long (q1 &&& (4503599627370495 : Int64))), (.long (4503599627370496 : Int64))])) _
    refine XS.lor X0.here hx rfl (hb hby at_13) rfl ?_
    show Steps p.tables e below (s₁.setTop (mkF m 14 #[.val (.long q1), .second, .val (.int p2), .val (.int p3), .val (.long q4), .second, .val (.long (4503599627370496 : Int64)), .second, .unset, .unset, .unset, .unset, .unset, .unset, .unset, .unset, .unset, .unset, .unset, .unset, .unset, .unset, .unset, .unset] [(.long ((4503599627370496 : Int64) ||| (q1 &&& (4503599627370495 : Int64))))])) _
    refine XS.lstore X0.here hx rfl (hb hby at_14) rfl (l' := #[.val (.long q1), .second, .val (.int p2), .val (.int p3), .val (.long q4), .second, .val (.long (4503599627370496 : Int64)), .second, .val (.long ((4503599627370496 : Int64) ||| (q1 &&& (4503599627370495 : Int64)))), .second, .unset, .unset, .unset, .unset, .unset, .unset, .unset, .unset, .unset, .unset, .unset, .unset, .unset, .unset]) rfl ?_
    exact kq
  obtain ⟨v4, hv_v4, pre3⟩ : ∃ v4 : Int32, v4 = (p2 &&& (7 : Int32)) ∧ (∀ tq, Steps p.tables e below (s₁.setTop (mkF m 22 #[.val (.long q1), .second, .val (.int p2), .val (.int p3), .val (.long q4), .second, .val (.long (4503599627370496 : Int64)), .second, .val (.long v2), .second, .val (.int v4), .unset, .unset, .unset, .unset, .unset, .unset, .unset, .unset, .unset, .unset, .unset, .unset, .unset] [])) tq → Steps p.tables e below (s₁.setTop (entryFrame m #[(.long q1), (.int p2), (.int p3), (.long q4)] maxLocals)) tq) := by
    refine ⟨_, rfl, fun tq kq => pre1 tq ?_⟩
    show Steps p.tables e below (s₁.setTop (mkF m 16 #[.val (.long q1), .second, .val (.int p2), .val (.int p3), .val (.long q4), .second, .val (.long (4503599627370496 : Int64)), .second, .val (.long v2), .second, .unset, .unset, .unset, .unset, .unset, .unset, .unset, .unset, .unset, .unset, .unset, .unset, .unset, .unset] [])) _
    refine XS.iloadN X0.here hx rfl (hb hby at_16) rfl ?_
    show Steps p.tables e below (s₁.setTop (mkF m 17 #[.val (.long q1), .second, .val (.int p2), .val (.int p3), .val (.long q4), .second, .val (.long (4503599627370496 : Int64)), .second, .val (.long v2), .second, .unset, .unset, .unset, .unset, .unset, .unset, .unset, .unset, .unset, .unset, .unset, .unset, .unset, .unset] [(.int p2)])) _
    refine XS.bipush X0.here hx rfl (hb hby at_17) ?_
    show Steps p.tables e below (s₁.setTop (mkF m 19 #[.val (.long q1), .second, .val (.int p2), .val (.int p3), .val (.long q4), .second, .val (.long (4503599627370496 : Int64)), .second, .val (.long v2), .second, .unset, .unset, .unset, .unset, .unset, .unset, .unset, .unset, .unset, .unset, .unset, .unset, .unset, .unset] [(.int (7 : Int32)), (.int p2)])) _
    refine XS.iand X0.here hx rfl (hb hby at_19) rfl ?_
    show Steps p.tables e below (s₁.setTop (mkF m 20 #[.val (.long q1), .second, .val (.int p2), .val (.int p3), .val (.long q4), .second, .val (.long (4503599627370496 : Int64)), .second, .val (.long v2), .second, .unset, .unset, .unset, .unset, .unset, .unset, .unset, .unset, .unset, .unset, .unset, .unset, .unset, .unset] [(.int (p2 &&& (7 : Int32)))])) _
    refine XS.istore X0.here hx rfl (hb hby at_20) rfl (l' := #[.val (.long q1), .second, .val (.int p2), .val (.int p3), .val (.long q4), .second, .val (.long (4503599627370496 : Int64)), .second, .val (.long v2), .second, .val (.int (p2 &&& (7 : Int32))), .unset, .unset, .unset, .unset, .unset, .unset, .unset, .unset, .unset, .unset, .unset, .unset, .unset]) rfl ?_
    exact kq
  have hE := own_e8 hv_v4
  obtain ⟨v6, hv_v6, pre5⟩ : ∃ v6 : Int64, v6 = (v2 <<< (v4 &&& 0x3f).toInt64) ∧ (∀ tq, Steps p.tables e below (s₁.setTop (mkF m 29 #[.val (.long q1), .second, .val (.int p2), .val (.int p3), .val (.long q4), .second, .val (.long (4503599627370496 : Int64)), .second, .val (.long v2), .second, .val (.int v4), .val (.long v6), .second, .unset, .unset, .unset, .unset, .unset, .unset, .unset, .unset, .unset, .unset, .unset] [])) tq → Steps p.tables e below (s₁.setTop (entryFrame m #[(.long q1), (.int p2), (.int p3), (.long q4)] maxLocals)) tq) := by
    refine ⟨_, rfl, fun tq kq => pre3 tq ?_⟩
    show Steps p.tables e below (s₁.setTop (mkF m 22 #[.val (.long q1), .second, .val (.int p2), .val (.int p3), .val (.long q4), .second, .val (.long (4503599627370496 : Int64)), .second, .val (.long v2), .second, .val (.int v4), .unset, .unset, .unset, .unset, .unset, .unset, .unset, .unset, .unset, .unset, .unset, .unset, .unset] [])) _
    refine XS.lload X0.here hx rfl (hb hby at_22) rfl ?_
    show Steps p.tables e below (s₁.setTop (mkF m 24 #[.val (.long q1), .second, .val (.int p2), .val (.int p3), .val (.long q4), .second, .val (.long (4503599627370496 : Int64)), .second, .val (.long v2), .second, .val (.int v4), .unset, .unset, .unset, .unset, .unset, .unset, .unset, .unset, .unset, .unset, .unset, .unset, .unset] [(.long v2)])) _
    refine XS.iload X0.here hx rfl (hb hby at_24) rfl ?_
    show Steps p.tables e below (s₁.setTop (mkF m 26 #[.val (.long q1), .second, .val (.int p2), .val (.int p3), .val (.long q4), .second, .val (.long (4503599627370496 : Int64)), .second, .val (.long v2), .second, .val (.int v4), .unset, .unset, .unset, .unset, .unset, .unset, .unset, .unset, .unset, .unset, .unset, .unset, .unset] [(.int v4), (.long v2)])) _
    refine XS.lshl X0.here hx rfl (hb hby at_26) rfl ?_
    show Steps p.tables e below (s₁.setTop (mkF m 27 #[.val (.long q1), .second, .val (.int p2), .val (.int p3), .val (.long q4), .second, .val (.long (4503599627370496 : Int64)), .second, .val (.long v2), .second, .val (.int v4), .unset, .unset, .unset, .unset, .unset, .unset, .unset, .unset, .unset, .unset, .unset, .unset, .unset] [(.long (v2 <<< (v4 &&& 0x3f).toInt64))])) _
    refine XS.lstore X0.here hx rfl (hb hby at_27) rfl (l' := #[.val (.long q1), .second, .val (.int p2), .val (.int p3), .val (.long q4), .second, .val (.long (4503599627370496 : Int64)), .second, .val (.long v2), .second, .val (.int v4), .val (.long (v2 <<< (v4 &&& 0x3f).toInt64)), .second, .unset, .unset, .unset, .unset, .unset, .unset, .unset, .unset, .unset, .unset, .unset]) rfl ?_
    exact kq
  have hm := own_m hv_v2
  have hvv := own_shl8 hv_v6 hm.1 hm.2 hE
  have hbt := own_bits2 (e := v4.toInt.toNat) hm.1 hm.2 hvv.2.1 hvv.1
  obtain ⟨T7, h7, X7, e7, E7, A7, D7, -, st7⟩ := newO X0 hx hZ hown (hw _ (List.mem_of_getElem? (i := 1) rfl)) (hw _ (List.mem_of_getElem? (i := 2) rfl)) (hw _ (List.mem_of_getElem? (i := 3) rfl)) e0 (g := (mkF m 29 #[.val (.long q1), .second, .val (.int p2), .val (.int p3), .val (.long q4), .second, .val (.long (4503599627370496 : Int64)), .second, .val (.long v2), .second, .val (.int v4), .val (.long v6), .second, .unset, .unset, .unset, .unset, .unset, .unset, .unset, .unset, .unset, .unset, .unset] [])) rfl (hb hby at_29) (by decide) (by decide)
  obtain ⟨b7, g7⟩ : ∃ z, z = h0.size := ⟨_, rfl⟩
  rw [← g7] at A7 D7 st7
  have g_b7 : n0 ≤ b7 := Nat.le_trans Z0 (Nat.le_of_eq g7.symm)
  have sz_b7 : h0.size ≤ b7 := Nat.le_trans (Nat.le_refl h0.size) (Nat.le_of_eq g7.symm)
  have ne8 : sF ≠ b7 := Nat.ne_of_lt (Nat.lt_of_lt_of_le V_sF.lt (Nat.le_of_eq g7.symm))
  have pre9 : ∀ tq, Steps p.tables e below (T7.setTop (mkF m 32 #[.val (.long q1), .second, .val (.int p2), .val (.int p3), .val (.long q4), .second, .val (.long (4503599627370496 : Int64)), .second, .val (.long v2), .second, .val (.int v4), .val (.long v6), .second, .unset, .unset, .unset, .unset, .unset, .unset, .unset, .unset, .unset, .unset, .unset] [(.ref b7)])) tq → Steps p.tables e below (s₁.setTop (entryFrame m #[(.long q1), (.int p2), (.int p3), (.long q4)] maxLocals)) tq := fun tq kq => pre5 tq (st7 _ kq)
  have f10 := S_FIVES.ext E7
  have f11 := V_sF.ext E7
  have K7 : Keep h0 h7 [] := Keep.ext (Keep.refl h0 []) E7
  have f12 : Fld Z h7 b7 "com/example/partwise/partwise/storage/DecimalRange" "twiceBelow" "J" (.long (0 : Int64)) := D7 (Or.inr (hw _ (List.mem_of_getElem? (i := 37) rfl))) (ty := .long) (by decide)
  have f13 : Fld Z h7 b7 "com/example/partwise/partwise/storage/DecimalRange" "twiceAbove" "J" (.long (0 : Int64)) := D7 (Or.inr (hw _ (List.mem_of_getElem? (i := 39) rfl))) (ty := .long) (by decide)
  have f14 : Fld Z h7 b7 "com/example/partwise/partwise/storage/DecimalRange" "halfwayIncluded" "Z" (.int (0 : Int32)) := D7 (Or.inr (hw _ (List.mem_of_getElem? (i := 41) rfl))) (ty := .boolean) (by decide)
  have pre15 : ∀ tq, Steps p.tables e below (T7.setTop (mkF m 37 #[.val (.long q1), .second, .val (.int p2), .val (.int p3), .val (.long q4), .second, .val (.long (4503599627370496 : Int64)), .second, .val (.long v2), .second, .val (.int v4), .val (.long v6), .second, .unset, .unset, .unset, .unset, .unset, .unset, .unset, .unset, .unset, .unset, .unset] [(.int (0 : Int32)), (.double (FP.l2d v6)), (.ref b7), (.ref b7)])) tq → Steps p.tables e below (s₁.setTop (entryFrame m #[(.long q1), (.int p2), (.int p3), (.long q4)] maxLocals)) tq := by
    refine fun tq kq => pre9 tq ?_
    show Steps p.tables e below (T7.setTop (mkF m 32 #[.val (.long q1), .second, .val (.int p2), .val (.int p3), .val (.long q4), .second, .val (.long (4503599627370496 : Int64)), .second, .val (.long v2), .second, .val (.int v4), .val (.long v6), .second, .unset, .unset, .unset, .unset, .unset, .unset, .unset, .unset, .unset, .unset, .unset] [(.ref b7)])) _
    refine XS.dup X7.here hx rfl (hb hby at_32) rfl rfl ?_
    show Steps p.tables e below (T7.setTop (mkF m 33 #[.val (.long q1), .second, .val (.int p2), .val (.int p3), .val (.long q4), .second, .val (.long (4503599627370496 : Int64)), .second, .val (.long v2), .second, .val (.int v4), .val (.long v6), .second, .unset, .unset, .unset, .unset, .unset, .unset, .unset, .unset, .unset, .unset, .unset] [(.ref b7), (.ref b7)])) _
    refine XS.lload X7.here hx rfl (hb hby at_33) rfl ?_
    show Steps p.tables e below (T7.setTop (mkF m 35 #[.val (.long q1), .second, .val (.int p2), .val (.int p3), .val (.long q4), .second, .val (.long (4503599627370496 : Int64)), .second, .val (.long v2), .second, .val (.int v4), .val (.long v6), .second, .unset, .unset, .unset, .unset, .unset, .unset, .unset, .unset, .unset, .unset, .unset] [(.long v6), (.ref b7), (.ref b7)])) _
    refine XS.l2dS X7.here hx rfl (hb hby at_35) rfl rfl ?_
    show Steps p.tables e below (T7.setTop (mkF m 36 #[.val (.long q1), .second, .val (.int p2), .val (.int p3), .val (.long q4), .second, .val (.long (4503599627370496 : Int64)), .second, .val (.long v2), .second, .val (.int v4), .val (.long v6), .second, .unset, .unset, .unset, .unset, .unset, .unset, .unset, .unset, .unset, .unset, .unset] [(.double (FP.l2d v6)), (.ref b7), (.ref b7)])) _
    refine XS.iconst X7.here hx rfl (hb hby at_36) ?_
    exact kq
  have Z16 : n0 ≤ h7.size := (Nat.le_trans Z0 E7.1)
  obtain ⟨_, _, ⟨T16, L16, k16, n16⟩, -, X16, ⟨Lc16, hQ16, l16, y16, z16⟩, st16⟩ := X7.specialBack hx (y := (⟨"com/example/partwise/partwise/storage/DecimalRange", "<init>", "(DI)V"⟩ : MethodName)) rfl hown (mvT hZ (hw _ (List.mem_of_getElem? (i := 4) rfl))) (mvT hZ (hw _ (List.mem_of_getElem? (i := 5) rfl))) (mvT hZ (hw _ (List.mem_of_getElem? (i := 6) rfl))) (by decide) (backOf (W := 1) (rm1 l Z a0 hw [] b7 (FP.l2d v6) (v2.toInt.toNat) (v4.toInt.toNat) sF kF h7 n0 Z16 A7 f12 f13 f14 g_b7 (hbt) f10 f11 (Ne.symm ne8)) hZ (hw _ (List.mem_of_getElem? (i := 6) rfl)) (hw _ (List.mem_of_getElem? (i := 3) rfl)) (by decide) (by decide)) (g := (mkF m 37 #[.val (.long q1), .second, .val (.int p2), .val (.int p3), .val (.long q4), .second, .val (.long (4503599627370496 : Int64)), .second, .val (.long v2), .second, .val (.int v4), .val (.long v6), .second, .unset, .unset, .unset, .unset, .unset, .unset, .unset, .unset, .unset, .unset, .unset] [(.int (0 : Int32)), (.double (FP.l2d v6)), (.ref b7), (.ref b7)])) rfl (by rw [hml]; rfl) (Steps.refl _) (a := b7) (argsL := [(.double (FP.l2d v6)), (.int (0 : Int32))]) (rest := [(.ref b7)]) (lenOf pd0_0 rfl) rfl (by show 2 * 0 + _ ≤ _; exact Nat.le_of_eq rfl) (hb hby at_37) (fun _ _ => ⟨rfl, e7, (by decide : (0 + 1) + 0 ≤ _), (by decide : (0 + 3) + 0 ≤ _)⟩)
  dsimp only [Pt.U, Pt.locs, Pt.cells, Pt.slots] at X16 l16 y16 z16 st16 hQ16
  subst l16 y16 z16
  obtain ⟨u20, u21, u22, rfl, Nq16, Kq16, f17, f18, f19, hq16⟩ := hQ16
  have N16 := Fr.app N0 Nq16
  have pre23 : ∀ tq, Steps p.tables e below (T16.setTop (mkF m 40 #[.val (.long q1), .second, .val (.int p2), .val (.int p3), .val (.long q4), .second, .val (.long (4503599627370496 : Int64)), .second, .val (.long v2), .second, .val (.int v4), .val (.long v6), .second, .unset, .unset, .unset, .unset, .unset, .unset, .unset, .unset, .unset, .unset, .unset] [(.ref b7)])) tq → Steps p.tables e below (s₁.setTop (entryFrame m #[(.long q1), (.int p2), (.int p3), (.long q4)] maxLocals)) tq := fun tq kq => pre15 tq (st16.trans kq)
  have K16 : Keep h0 T16.heap [] := Keep.trans K7 Kq16 (allS (Or.inr sz_b7) all0)
  have f24 := own_sta_keep f10 Kq16 (allS (own_nostat A7) all0)
  have f25 := f11.keep Kq16 (by simp only [List.mem_cons, List.not_mem_nil, or_false, not_or]; exact ne8)
  have f26 := A7.keep Kq16
  obtain ⟨v27, hj28, pre28⟩ : ∃ v27 : Int64, (((p3 &&& (1 : Int32)) = (0 : Int32) ∧ v27 = ((v6 + (((p3 >>> ((1 : Int32) &&& 31)) &&& (511 : Int32)).toInt64)) - (256 : Int64))) ∨ (¬ ((p3 &&& (1 : Int32)) = (0 : Int32)) ∧ v27 = (q4 &&& (2305843009213693951 : Int64)))) ∧ (∀ tq, Steps p.tables e below (T16.setTop (mkF m 76 #[.val (.long q1), .second, .val (.int p2), .val (.int p3), .val (.long q4), .second, .val (.long (4503599627370496 : Int64)), .second, .val (.long v2), .second, .val (.int v4), .val (.long v6), .second, .val (.ref b7), .val (.long v27), .second, .unset, .unset, .unset, .unset, .unset, .unset, .unset, .unset] [])) tq → Steps p.tables e below (s₁.setTop (entryFrame m #[(.long q1), (.int p2), (.int p3), (.long q4)] maxLocals)) tq) := by
    by_cases hb0_45 : (p3 &&& (1 : Int32)) = (0 : Int32)
    · skip
      refine ⟨((v6 + (((p3 >>> ((1 : Int32) &&& 31)) &&& (511 : Int32)).toInt64)) - (256 : Int64)), Or.inl (⟨hb0_45, rfl⟩), fun tq kq => pre23 tq ?_⟩
      show Steps p.tables e below (T16.setTop (mkF m 40 #[.val (.long q1), .second, .val (.int p2), .val (.int p3), .val (.long q4), .second, .val (.long (4503599627370496 : Int64)), .second, .val (.long v2), .second, .val (.int v4), .val (.long v6), .second, .unset, .unset, .unset, .unset, .unset, .unset, .unset, .unset, .unset, .unset, .unset] [(.ref b7)])) _
      refine XS.astore X16.here hx rfl (hb hby at_40) rfl rfl (l' := #[.val (.long q1), .second, .val (.int p2), .val (.int p3), .val (.long q4), .second, .val (.long (4503599627370496 : Int64)), .second, .val (.long v2), .second, .val (.int v4), .val (.long v6), .second, .val (.ref b7), .unset, .unset, .unset, .unset, .unset, .unset, .unset, .unset, .unset, .unset]) rfl ?_
      show Steps p.tables e below (T16.setTop (mkF m 42 #[.val (.long q1), .second, .val (.int p2), .val (.int p3), .val (.long q4), .second, .val (.long (4503599627370496 : Int64)), .second, .val (.long v2), .second, .val (.int v4), .val (.long v6), .second, .val (.ref b7), .unset, .unset, .unset, .unset, .unset, .unset, .unset, .unset, .unset, .unset] [])) _
      refine XS.iloadN X16.here hx rfl (hb hby at_42) rfl ?_
      show Steps p.tables e below (T16.setTop (mkF m 43 #[.val (.long q1), .second, .val (.int p2), .val (.int p3), .val (.long q4), .second, .val (.long (4503599627370496 : Int64)), .second, .val (.long v2), .second, .val (.int v4), .val (.long v6), .second, .val (.ref b7), .unset, .unset, .unset, .unset, .unset, .unset, .unset, .unset, .unset, .unset] [(.int p3)])) _
      refine XS.iconst X16.here hx rfl (hb hby at_43) ?_
      show Steps p.tables e below (T16.setTop (mkF m 44 #[.val (.long q1), .second, .val (.int p2), .val (.int p3), .val (.long q4), .second, .val (.long (4503599627370496 : Int64)), .second, .val (.long v2), .second, .val (.int v4), .val (.long v6), .second, .val (.ref b7), .unset, .unset, .unset, .unset, .unset, .unset, .unset, .unset, .unset, .unset] [(.int (1 : Int32)), (.int p3)])) _
      refine XS.iand X16.here hx rfl (hb hby at_44) rfl ?_
      show Steps p.tables e below (T16.setTop (mkF m 45 #[.val (.long q1), .second, .val (.int p2), .val (.int p3), .val (.long q4), .second, .val (.long (4503599627370496 : Int64)), .second, .val (.long v2), .second, .val (.int v4), .val (.long v6), .second, .val (.ref b7), .unset, .unset, .unset, .unset, .unset, .unset, .unset, .unset, .unset, .unset] [(.int (p3 &&& (1 : Int32)))])) _
      refine XS.ifNo X16.here hx rfl (hb hby at_45) rfl ((if0 _ _).trans (teq hb0_45).2) ?_
      show Steps p.tables e below (T16.setTop (mkF m 48 #[.val (.long q1), .second, .val (.int p2), .val (.int p3), .val (.long q4), .second, .val (.long (4503599627370496 : Int64)), .second, .val (.long v2), .second, .val (.int v4), .val (.long v6), .second, .val (.ref b7), .unset, .unset, .unset, .unset, .unset, .unset, .unset, .unset, .unset, .unset] [])) _
      refine XS.lload X16.here hx rfl (hb hby at_48) rfl ?_
      show Steps p.tables e below (T16.setTop (mkF m 50 #[.val (.long q1), .second, .val (.int p2), .val (.int p3), .val (.long q4), .second, .val (.long (4503599627370496 : Int64)), .second, .val (.long v2), .second, .val (.int v4), .val (.long v6), .second, .val (.ref b7), .unset, .unset, .unset, .unset, .unset, .unset, .unset, .unset, .unset, .unset] [(.long v6)])) _
      refine XS.iloadN X16.here hx rfl (hb hby at_50) rfl ?_
      show Steps p.tables e below (T16.setTop (mkF m 51 #[.val (.long q1), .second, .val (.int p2), .val (.int p3), .val (.long q4), .second, .val (.long (4503599627370496 : Int64)), .second, .val (.long v2), .second, .val (.int v4), .val (.long v6), .second, .val (.ref b7), .unset, .unset, .unset, .unset, .unset, .unset, .unset, .unset, .unset, .unset] [(.int p3), (.long v6)])) _
      refine XS.iconst X16.here hx rfl (hb hby at_51) ?_
      show Steps p.tables e below (T16.setTop (mkF m 52 #[.val (.long q1), .second, .val (.int p2), .val (.int p3), .val (.long q4), .second, .val (.long (4503599627370496 : Int64)), .second, .val (.long v2), .second, .val (.int v4), .val (.long v6), .second, .val (.ref b7), .unset, .unset, .unset, .unset, .unset, .unset, .unset, .unset, .unset, .unset] [(.int (1 : Int32)), (.int p3), (.long v6)])) _
      refine XS.ishr X16.here hx rfl (hb hby at_52) rfl ?_
      show Steps p.tables e below (T16.setTop (mkF m 53 #[.val (.long q1), .second, .val (.int p2), .val (.int p3), .val (.long q4), .second, .val (.long (4503599627370496 : Int64)), .second, .val (.long v2), .second, .val (.int v4), .val (.long v6), .second, .val (.ref b7), .unset, .unset, .unset, .unset, .unset, .unset, .unset, .unset, .unset, .unset] [(.int (p3 >>> ((1 : Int32) &&& 31))), (.long v6)])) _
      refine XS.sipush X16.here hx rfl (hb hby at_53) ?_
      show Steps p.tables e below (T16.setTop (mkF m 56 #[.val (.long q1), .second, .val (.int p2), .val (.int p3), .val (.long q4), .second, .val (.long (4503599627370496 : Int64)), .second, .val (.long v2), .second, .val (.int v4), .val (.long v6), .second, .val (.ref b7), .unset, .unset, .unset, .unset, .unset, .unset, .unset, .unset, .unset, .unset] [(.int (511 : Int32)), (.int (p3 >>> ((1 : Int32) &&& 31))), (.long v6)])) _
      refine XS.iand X16.here hx rfl (hb hby at_56) rfl ?_
      show Steps p.tables e below (T16.setTop (mkF m 57 #[.val (.long q1), .second, .val (.int p2), .val (.int p3), .val (.long q4), .second, .val (.long (4503599627370496 : Int64)), .second, .val (.long v2), .second, .val (.int v4), .val (.long v6), .second, .val (.ref b7), .unset, .unset, .unset, .unset, .unset, .unset, .unset, .unset, .unset, .unset] [(.int ((p3 >>> ((1 : Int32) &&& 31)) &&& (511 : Int32))), (.long v6)])) _
      refine XS.i2l X16.here hx rfl (hb hby at_57) rfl ?_
      show Steps p.tables e below (T16.setTop (mkF m 58 #[.val (.long q1), .second, .val (.int p2), .val (.int p3), .val (.long q4), .second, .val (.long (4503599627370496 : Int64)), .second, .val (.long v2), .second, .val (.int v4), .val (.long v6), .second, .val (.ref b7), .unset, .unset, .unset, .unset, .unset, .unset, .unset, .unset, .unset, .unset] [(.long (((p3 >>> ((1 : Int32) &&& 31)) &&& (511 : Int32)).toInt64)), (.long v6)])) _
      refine XS.ladd X16.here hx rfl (hb hby at_58) rfl ?_
      show Steps p.tables e below (T16.setTop (mkF m 59 #[.val (.long q1), .second, .val (.int p2), .val (.int p3), .val (.long q4), .second, .val (.long (4503599627370496 : Int64)), .second, .val (.long v2), .second, .val (.int v4), .val (.long v6), .second, .val (.ref b7), .unset, .unset, .unset, .unset, .unset, .unset, .unset, .unset, .unset, .unset] [(.long (v6 + (((p3 >>> ((1 : Int32) &&& 31)) &&& (511 : Int32)).toInt64)))])) _
      refine X16.ldc2Long hx hown (mvT hZ (hw _ (List.mem_of_getElem? (i := 49) rfl))) (g := (mkF m 59 #[.val (.long q1), .second, .val (.int p2), .val (.int p3), .val (.long q4), .second, .val (.long (4503599627370496 : Int64)), .second, .val (.long v2), .second, .val (.int v4), .val (.long v6), .second, .val (.ref b7), .unset, .unset, .unset, .unset, .unset, .unset, .unset, .unset, .unset, .unset] [(.long (v6 + (((p3 >>> ((1 : Int32) &&& 31)) &&& (511 : Int32)).toInt64)))])) rfl (hb hby at_59) _ ?_
      show Steps p.tables e below (T16.setTop (mkF m 62 #[.val (.long q1), .second, .val (.int p2), .val (.int p3), .val (.long q4), .second, .val (.long (4503599627370496 : Int64)), .second, .val (.long v2), .second, .val (.int v4), .val (.long v6), .second, .val (.ref b7), .unset, .unset, .unset, .unset, .unset, .unset, .unset, .unset, .unset, .unset] [(.long (256 : Int64)), (.long (v6 + (((p3 >>> ((1 : Int32) &&& 31)) &&& (511 : Int32)).toInt64)))])) _
      refine XS.lsub X16.here hx rfl (hb hby at_62) rfl ?_
      show Steps p.tables e below (T16.setTop (mkF m 63 #[.val (.long q1), .second, .val (.int p2), .val (.int p3), .val (.long q4), .second, .val (.long (4503599627370496 : Int64)), .second, .val (.long v2), .second, .val (.int v4), .val (.long v6), .second, .val (.ref b7), .unset, .unset, .unset, .unset, .unset, .unset, .unset, .unset, .unset, .unset] [(.long ((v6 + (((p3 >>> ((1 : Int32) &&& 31)) &&& (511 : Int32)).toInt64)) - (256 : Int64)))])) _
      refine XS.lstore X16.here hx rfl (hb hby at_63) rfl (l' := #[.val (.long q1), .second, .val (.int p2), .val (.int p3), .val (.long q4), .second, .val (.long (4503599627370496 : Int64)), .second, .val (.long v2), .second, .val (.int v4), .val (.long v6), .second, .val (.ref b7), .val (.long ((v6 + (((p3 >>> ((1 : Int32) &&& 31)) &&& (511 : Int32)).toInt64)) - (256 : Int64))), .second, .unset, .unset, .unset, .unset, .unset, .unset, .unset, .unset]) rfl ?_
      show Steps p.tables e below (T16.setTop (mkF m 65 #[.val (.long q1), .second, .val (.int p2), .val (.int p3), .val (.long q4), .second, .val (.long (4503599627370496 : Int64)), .second, .val (.long v2), .second, .val (.int v4), .val (.long v6), .second, .val (.ref b7), .val (.long ((v6 + (((p3 >>> ((1 : Int32) &&& 31)) &&& (511 : Int32)).toInt64)) - (256 : Int64))), .second, .unset, .unset, .unset, .unset, .unset, .unset, .unset, .unset] [])) _
      refine XS.goto X16.here hx rfl (pc0 := 65) (pc' := 76) rfl (hb hby at_65) (by decide) (by decide) ?_
      exact kq
    · skip
      refine ⟨(q4 &&& (2305843009213693951 : Int64)), Or.inr (⟨hb0_45, rfl⟩), fun tq kq => pre23 tq ?_⟩
      show Steps p.tables e below (T16.setTop (mkF m 40 #[.val (.long q1), .second, .val (.int p2), .val (.int p3), .val (.long q4), .second, .val (.long (4503599627370496 : Int64)), .second, .val (.long v2), .second, .val (.int v4), .val (.long v6), .second, .unset, .unset, .unset, .unset, .unset, .unset, .unset, .unset, .unset, .unset, .unset] [(.ref b7)])) _
      refine XS.astore X16.here hx rfl (hb hby at_40) rfl rfl (l' := #[.val (.long q1), .second, .val (.int p2), .val (.int p3), .val (.long q4), .second, .val (.long (4503599627370496 : Int64)), .second, .val (.long v2), .second, .val (.int v4), .val (.long v6), .second, .val (.ref b7), .unset, .unset, .unset, .unset, .unset, .unset, .unset, .unset, .unset, .unset]) rfl ?_
      show Steps p.tables e below (T16.setTop (mkF m 42 #[.val (.long q1), .second, .val (.int p2), .val (.int p3), .val (.long q4), .second, .val (.long (4503599627370496 : Int64)), .second, .val (.long v2), .second, .val (.int v4), .val (.long v6), .second, .val (.ref b7), .unset, .unset, .unset, .unset, .unset, .unset, .unset, .unset, .unset, .unset] [])) _
      refine XS.iloadN X16.here hx rfl (hb hby at_42) rfl ?_
      show Steps p.tables e below (T16.setTop (mkF m 43 #[.val (.long q1), .second, .val (.int p2), .val (.int p3), .val (.long q4), .second, .val (.long (4503599627370496 : Int64)), .second, .val (.long v2), .second, .val (.int v4), .val (.long v6), .second, .val (.ref b7), .unset, .unset, .unset, .unset, .unset, .unset, .unset, .unset, .unset, .unset] [(.int p3)])) _
      refine XS.iconst X16.here hx rfl (hb hby at_43) ?_
      show Steps p.tables e below (T16.setTop (mkF m 44 #[.val (.long q1), .second, .val (.int p2), .val (.int p3), .val (.long q4), .second, .val (.long (4503599627370496 : Int64)), .second, .val (.long v2), .second, .val (.int v4), .val (.long v6), .second, .val (.ref b7), .unset, .unset, .unset, .unset, .unset, .unset, .unset, .unset, .unset, .unset] [(.int (1 : Int32)), (.int p3)])) _
      refine XS.iand X16.here hx rfl (hb hby at_44) rfl ?_
      show Steps p.tables e below (T16.setTop (mkF m 45 #[.val (.long q1), .second, .val (.int p2), .val (.int p3), .val (.long q4), .second, .val (.long (4503599627370496 : Int64)), .second, .val (.long v2), .second, .val (.int v4), .val (.long v6), .second, .val (.ref b7), .unset, .unset, .unset, .unset, .unset, .unset, .unset, .unset, .unset, .unset] [(.int (p3 &&& (1 : Int32)))])) _
      refine XS.ifYes X16.here hx rfl (pc0 := 45) (pc' := 68) rfl (hb hby at_45) rfl ((if0 _ _).trans (feq hb0_45).2) (by decide) (by decide) ?_
      show Steps p.tables e below (T16.setTop (mkF m 68 #[.val (.long q1), .second, .val (.int p2), .val (.int p3), .val (.long q4), .second, .val (.long (4503599627370496 : Int64)), .second, .val (.long v2), .second, .val (.int v4), .val (.long v6), .second, .val (.ref b7), .unset, .unset, .unset, .unset, .unset, .unset, .unset, .unset, .unset, .unset] [])) _
      refine XS.lload X16.here hx rfl (hb hby at_68) rfl ?_
      show Steps p.tables e below (T16.setTop (mkF m 70 #[.val (.long q1), .second, .val (.int p2), .val (.int p3), .val (.long q4), .second, .val (.long (4503599627370496 : Int64)), .second, .val (.long v2), .second, .val (.int v4), .val (.long v6), .second, .val (.ref b7), .unset, .unset, .unset, .unset, .unset, .unset, .unset, .unset, .unset, .unset] [(.long q4)])) _
      refine X16.ldc2Long hx hown (mvT hZ (hw _ (List.mem_of_getElem? (i := 42) rfl))) (g := (mkF m 70 #[.val (.long q1), .second, .val (.int p2), .val (.int p3), .val (.long q4), .second, .val (.long (4503599627370496 : Int64)), .second, .val (.long v2), .second, .val (.int v4), .val (.long v6), .second, .val (.ref b7), .unset, .unset, .unset, .unset, .unset, .unset, .unset, .unset, .unset, .unset] [(.long q4)])) rfl (hb hby at_70) _ ?_
      show Steps p.tables e below (T16.setTop (mkF m 73 #[.val (.long q1), .second, .val (.int p2), .val (.int p3), .val (.long q4), .second, .val (.long (4503599627370496 : Int64)), .second, .val (.long v2), .second, .val (.int v4), .val (.long v6), .second, .val (.ref b7), .unset, .unset, .unset, .unset, .unset, .unset, .unset, .unset, .unset, .unset] [(.long (2305843009213693951 : Int64)), (.long q4)])) _
      refine XS.land X16.here hx rfl (hb hby at_73) rfl ?_
      show Steps p.tables e below (T16.setTop (mkF m 74 #[.val (.long q1), .second, .val (.int p2), .val (.int p3), .val (.long q4), .second, .val (.long (4503599627370496 : Int64)), .second, .val (.long v2), .second, .val (.int v4), .val (.long v6), .second, .val (.ref b7), .unset, .unset, .unset, .unset, .unset, .unset, .unset, .unset, .unset, .unset] [(.long (q4 &&& (2305843009213693951 : Int64)))])) _
      refine XS.lstore X16.here hx rfl (hb hby at_74) rfl (l' := #[.val (.long q1), .second, .val (.int p2), .val (.int p3), .val (.long q4), .second, .val (.long (4503599627370496 : Int64)), .second, .val (.long v2), .second, .val (.int v4), .val (.long v6), .second, .val (.ref b7), .val (.long (q4 &&& (2305843009213693951 : Int64))), .second, .unset, .unset, .unset, .unset, .unset, .unset, .unset, .unset]) rfl ?_
      exact kq
  have hn := own_n hvv.2.2.1 hvv.2.2.2 (by first | exact hj28 | exact Or.symm hj28)
  obtain ⟨v30, hv_v30, pre29⟩ : ∃ v30 : Int64, v30 = ((4 : Int64) * (v27 - v6)) ∧ (∀ tq, Steps p.tables e below (T16.setTop (mkF m 87 #[.val (.long q1), .second, .val (.int p2), .val (.int p3), .val (.long q4), .second, .val (.long (4503599627370496 : Int64)), .second, .val (.long v2), .second, .val (.int v4), .val (.long v6), .second, .val (.ref b7), .val (.long v27), .second, .val (.long v30), .second, .unset, .unset, .unset, .unset, .unset, .unset] [])) tq → Steps p.tables e below (s₁.setTop (entryFrame m #[(.long q1), (.int p2), (.int p3), (.long q4)] maxLocals)) tq) := by
    refine ⟨_, rfl, fun tq kq => pre28 tq ?_⟩
    show Steps p.tables e below (T16.setTop (mkF m 76 #[.val (.long q1), .second, .val (.int p2), .val (.int p3), .val (.long q4), .second, .val (.long (4503599627370496 : Int64)), .second, .val (.long v2), .second, .val (.int v4), .val (.long v6), .second, .val (.ref b7), .val (.long v27), .second, .unset, .unset, .unset, .unset, .unset, .unset, .unset, .unset] [])) _
    refine X16.ldc2Long hx hown (mvT hZ (hw _ (List.mem_of_getElem? (i := 43) rfl))) (g := (mkF m 76 #[.val (.long q1), .second, .val (.int p2), .val (.int p3), .val (.long q4), .second, .val (.long (4503599627370496 : Int64)), .second, .val (.long v2), .second, .val (.int v4), .val (.long v6), .second, .val (.ref b7), .val (.long v27), .second, .unset, .unset, .unset, .unset, .unset, .unset, .unset, .unset] [])) rfl (hb hby at_76) _ ?_
    show Steps p.tables e below (T16.setTop (mkF m 79 #[.val (.long q1), .second, .val (.int p2), .val (.int p3), .val (.long q4), .second, .val (.long (4503599627370496 : Int64)), .second, .val (.long v2), .second, .val (.int v4), .val (.long v6), .second, .val (.ref b7), .val (.long v27), .second, .unset, .unset, .unset, .unset, .unset, .unset, .unset, .unset] [(.long (4 : Int64))])) _
    refine XS.lload X16.here hx rfl (hb hby at_79) rfl ?_
    show Steps p.tables e below (T16.setTop (mkF m 81 #[.val (.long q1), .second, .val (.int p2), .val (.int p3), .val (.long q4), .second, .val (.long (4503599627370496 : Int64)), .second, .val (.long v2), .second, .val (.int v4), .val (.long v6), .second, .val (.ref b7), .val (.long v27), .second, .unset, .unset, .unset, .unset, .unset, .unset, .unset, .unset] [(.long v27), (.long (4 : Int64))])) _
    refine XS.lload X16.here hx rfl (hb hby at_81) rfl ?_
    show Steps p.tables e below (T16.setTop (mkF m 83 #[.val (.long q1), .second, .val (.int p2), .val (.int p3), .val (.long q4), .second, .val (.long (4503599627370496 : Int64)), .second, .val (.long v2), .second, .val (.int v4), .val (.long v6), .second, .val (.ref b7), .val (.long v27), .second, .unset, .unset, .unset, .unset, .unset, .unset, .unset, .unset] [(.long v6), (.long v27), (.long (4 : Int64))])) _
    refine XS.lsub X16.here hx rfl (hb hby at_83) rfl ?_
    show Steps p.tables e below (T16.setTop (mkF m 84 #[.val (.long q1), .second, .val (.int p2), .val (.int p3), .val (.long q4), .second, .val (.long (4503599627370496 : Int64)), .second, .val (.long v2), .second, .val (.int v4), .val (.long v6), .second, .val (.ref b7), .val (.long v27), .second, .unset, .unset, .unset, .unset, .unset, .unset, .unset, .unset] [(.long (v27 - v6)), (.long (4 : Int64))])) _
    refine XS.lmul X16.here hx rfl (hb hby at_84) rfl ?_
    show Steps p.tables e below (T16.setTop (mkF m 85 #[.val (.long q1), .second, .val (.int p2), .val (.int p3), .val (.long q4), .second, .val (.long (4503599627370496 : Int64)), .second, .val (.long v2), .second, .val (.int v4), .val (.long v6), .second, .val (.ref b7), .val (.long v27), .second, .unset, .unset, .unset, .unset, .unset, .unset, .unset, .unset] [(.long ((4 : Int64) * (v27 - v6)))])) _
    refine XS.lstore X16.here hx rfl (hb hby at_85) rfl (l' := #[.val (.long q1), .second, .val (.int p2), .val (.int p3), .val (.long q4), .second, .val (.long (4503599627370496 : Int64)), .second, .val (.long v2), .second, .val (.int v4), .val (.long v6), .second, .val (.ref b7), .val (.long v27), .second, .val (.long ((4 : Int64) * (v27 - v6))), .second, .unset, .unset, .unset, .unset, .unset, .unset]) rfl ?_
    exact kq
  have hd4 := own_d4 hv_v30 hvv.2.2.1 hvv.2.2.2 hn
  obtain ⟨v32, hv_v32, pre31⟩ : ∃ v32 : Int64, v32 = ((1 : Int64) <<< ((v4 + (1 : Int32)) &&& 0x3f).toInt64) ∧ (∀ tq, Steps p.tables e below (T16.setTop (mkF m 95 #[.val (.long q1), .second, .val (.int p2), .val (.int p3), .val (.long q4), .second, .val (.long (4503599627370496 : Int64)), .second, .val (.long v2), .second, .val (.int v4), .val (.long v6), .second, .val (.ref b7), .val (.long v27), .second, .val (.long v30), .second, .val (.long v32), .second, .unset, .unset, .unset, .unset] [])) tq → Steps p.tables e below (s₁.setTop (entryFrame m #[(.long q1), (.int p2), (.int p3), (.long q4)] maxLocals)) tq) := by
    refine ⟨_, rfl, fun tq kq => pre29 tq ?_⟩
    show Steps p.tables e below (T16.setTop (mkF m 87 #[.val (.long q1), .second, .val (.int p2), .val (.int p3), .val (.long q4), .second, .val (.long (4503599627370496 : Int64)), .second, .val (.long v2), .second, .val (.int v4), .val (.long v6), .second, .val (.ref b7), .val (.long v27), .second, .val (.long v30), .second, .unset, .unset, .unset, .unset, .unset, .unset] [])) _
    refine XS.lconst X16.here hx rfl (hb hby at_87) ?_
    show Steps p.tables e below (T16.setTop (mkF m 88 #[.val (.long q1), .second, .val (.int p2), .val (.int p3), .val (.long q4), .second, .val (.long (4503599627370496 : Int64)), .second, .val (.long v2), .second, .val (.int v4), .val (.long v6), .second, .val (.ref b7), .val (.long v27), .second, .val (.long v30), .second, .unset, .unset, .unset, .unset, .unset, .unset] [(.long (1 : Int64))])) _
    refine XS.iload X16.here hx rfl (hb hby at_88) rfl ?_
    show Steps p.tables e below (T16.setTop (mkF m 90 #[.val (.long q1), .second, .val (.int p2), .val (.int p3), .val (.long q4), .second, .val (.long (4503599627370496 : Int64)), .second, .val (.long v2), .second, .val (.int v4), .val (.long v6), .second, .val (.ref b7), .val (.long v27), .second, .val (.long v30), .second, .unset, .unset, .unset, .unset, .unset, .unset] [(.int v4), (.long (1 : Int64))])) _
    refine XS.iconst X16.here hx rfl (hb hby at_90) ?_
    show Steps p.tables e below (T16.setTop (mkF m 91 #[.val (.long q1), .second, .val (.int p2), .val (.int p3), .val (.long q4), .second, .val (.long (4503599627370496 : Int64)), .second, .val (.long v2), .second, .val (.int v4), .val (.long v6), .second, .val (.ref b7), .val (.long v27), .second, .val (.long v30), .second, .unset, .unset, .unset, .unset, .unset, .unset] [(.int (1 : Int32)), (.int v4), (.long (1 : Int64))])) _
    refine XS.iadd X16.here hx rfl (hb hby at_91) rfl ?_
    show Steps p.tables e below (T16.setTop (mkF m 92 #[.val (.long q1), .second, .val (.int p2), .val (.int p3), .val (.long q4), .second, .val (.long (4503599627370496 : Int64)), .second, .val (.long v2), .second, .val (.int v4), .val (.long v6), .second, .val (.ref b7), .val (.long v27), .second, .val (.long v30), .second, .unset, .unset, .unset, .unset, .unset, .unset] [(.int (v4 + (1 : Int32))), (.long (1 : Int64))])) _
    refine XS.lshl X16.here hx rfl (hb hby at_92) rfl ?_
    show Steps p.tables e below (T16.setTop (mkF m 93 #[.val (.long q1), .second, .val (.int p2), .val (.int p3), .val (.long q4), .second, .val (.long (4503599627370496 : Int64)), .second, .val (.long v2), .second, .val (.int v4), .val (.long v6), .second, .val (.ref b7), .val (.long v27), .second, .val (.long v30), .second, .unset, .unset, .unset, .unset, .unset, .unset] [(.long ((1 : Int64) <<< ((v4 + (1 : Int32)) &&& 0x3f).toInt64))])) _
    refine XS.lstore X16.here hx rfl (hb hby at_93) rfl (l' := #[.val (.long q1), .second, .val (.int p2), .val (.int p3), .val (.long q4), .second, .val (.long (4503599627370496 : Int64)), .second, .val (.long v2), .second, .val (.int v4), .val (.long v6), .second, .val (.ref b7), .val (.long v27), .second, .val (.long v30), .second, .val (.long ((1 : Int64) <<< ((v4 + (1 : Int32)) &&& 0x3f).toInt64)), .second, .unset, .unset, .unset, .unset]) rfl ?_
    exact kq
  obtain ⟨v33, hj34, pre34⟩ : ∃ v33 : Int64, ((v2 = (4503599627370496 : Int64) ∧ v33 = ((1 : Int64) <<< (v4 &&& 0x3f).toInt64)) ∨ (¬ (v2 = (4503599627370496 : Int64)) ∧ v33 = ((1 : Int64) <<< ((v4 + (1 : Int32)) &&& 0x3f).toInt64))) ∧ (∀ tq, Steps p.tables e below (T16.setTop (mkF m 116 #[.val (.long q1), .second, .val (.int p2), .val (.int p3), .val (.long q4), .second, .val (.long (4503599627370496 : Int64)), .second, .val (.long v2), .second, .val (.int v4), .val (.long v6), .second, .val (.ref b7), .val (.long v27), .second, .val (.long v30), .second, .val (.long v32), .second, .unset, .unset, .unset, .unset] [(.long v33)])) tq → Steps p.tables e below (s₁.setTop (entryFrame m #[(.long q1), (.int p2), (.int p3), (.long q4)] maxLocals)) tq) := by
    by_cases hb0_100 : v2 = (4503599627370496 : Int64)
    · skip
      refine ⟨((1 : Int64) <<< (v4 &&& 0x3f).toInt64), Or.inl (⟨hb0_100, rfl⟩), fun tq kq => pre31 tq ?_⟩
      show Steps p.tables e below (T16.setTop (mkF m 95 #[.val (.long q1), .second, .val (.int p2), .val (.int p3), .val (.long q4), .second, .val (.long (4503599627370496 : Int64)), .second, .val (.long v2), .second, .val (.int v4), .val (.long v6), .second, .val (.ref b7), .val (.long v27), .second, .val (.long v30), .second, .val (.long v32), .second, .unset, .unset, .unset, .unset] [])) _
      refine XS.lload X16.here hx rfl (hb hby at_95) rfl ?_
      show Steps p.tables e below (T16.setTop (mkF m 97 #[.val (.long q1), .second, .val (.int p2), .val (.int p3), .val (.long q4), .second, .val (.long (4503599627370496 : Int64)), .second, .val (.long v2), .second, .val (.int v4), .val (.long v6), .second, .val (.ref b7), .val (.long v27), .second, .val (.long v30), .second, .val (.long v32), .second, .unset, .unset, .unset, .unset] [(.long v2)])) _
      refine XS.lload X16.here hx rfl (hb hby at_97) rfl ?_
      show Steps p.tables e below (T16.setTop (mkF m 99 #[.val (.long q1), .second, .val (.int p2), .val (.int p3), .val (.long q4), .second, .val (.long (4503599627370496 : Int64)), .second, .val (.long v2), .second, .val (.int v4), .val (.long v6), .second, .val (.ref b7), .val (.long v27), .second, .val (.long v30), .second, .val (.long v32), .second, .unset, .unset, .unset, .unset] [(.long (4503599627370496 : Int64)), (.long v2)])) _
      refine XS.lcmp X16.here hx rfl (hb hby at_99) rfl ?_
      show Steps p.tables e below (T16.setTop (mkF m 100 #[.val (.long q1), .second, .val (.int p2), .val (.int p3), .val (.long q4), .second, .val (.long (4503599627370496 : Int64)), .second, .val (.long v2), .second, .val (.int v4), .val (.long v6), .second, .val (.ref b7), .val (.long v27), .second, .val (.long v30), .second, .val (.long v32), .second, .unset, .unset, .unset, .unset] [(.int (lcmpW v2 (4503599627370496 : Int64)))])) _
      refine XS.ifNo X16.here hx rfl (hb hby at_100) rfl (jteq hb0_100).2 ?_
      show Steps p.tables e below (T16.setTop (mkF m 103 #[.val (.long q1), .second, .val (.int p2), .val (.int p3), .val (.long q4), .second, .val (.long (4503599627370496 : Int64)), .second, .val (.long v2), .second, .val (.int v4), .val (.long v6), .second, .val (.ref b7), .val (.long v27), .second, .val (.long v30), .second, .val (.long v32), .second, .unset, .unset, .unset, .unset] [])) _
      refine XS.lconst X16.here hx rfl (hb hby at_103) ?_
      show Steps p.tables e below (T16.setTop (mkF m 104 #[.val (.long q1), .second, .val (.int p2), .val (.int p3), .val (.long q4), .second, .val (.long (4503599627370496 : Int64)), .second, .val (.long v2), .second, .val (.int v4), .val (.long v6), .second, .val (.ref b7), .val (.long v27), .second, .val (.long v30), .second, .val (.long v32), .second, .unset, .unset, .unset, .unset] [(.long (1 : Int64))])) _
      refine XS.iload X16.here hx rfl (hb hby at_104) rfl ?_
      show Steps p.tables e below (T16.setTop (mkF m 106 #[.val (.long q1), .second, .val (.int p2), .val (.int p3), .val (.long q4), .second, .val (.long (4503599627370496 : Int64)), .second, .val (.long v2), .second, .val (.int v4), .val (.long v6), .second, .val (.ref b7), .val (.long v27), .second, .val (.long v30), .second, .val (.long v32), .second, .unset, .unset, .unset, .unset] [(.int v4), (.long (1 : Int64))])) _
      refine XS.lshl X16.here hx rfl (hb hby at_106) rfl ?_
      show Steps p.tables e below (T16.setTop (mkF m 107 #[.val (.long q1), .second, .val (.int p2), .val (.int p3), .val (.long q4), .second, .val (.long (4503599627370496 : Int64)), .second, .val (.long v2), .second, .val (.int v4), .val (.long v6), .second, .val (.ref b7), .val (.long v27), .second, .val (.long v30), .second, .val (.long v32), .second, .unset, .unset, .unset, .unset] [(.long ((1 : Int64) <<< (v4 &&& 0x3f).toInt64))])) _
      refine XS.goto X16.here hx rfl (pc0 := 107) (pc' := 116) rfl (hb hby at_107) (by decide) (by decide) ?_
      exact kq
    · skip
      refine ⟨((1 : Int64) <<< ((v4 + (1 : Int32)) &&& 0x3f).toInt64), Or.inr (⟨hb0_100, rfl⟩), fun tq kq => pre31 tq ?_⟩
      show Steps p.tables e below (T16.setTop (mkF m 95 #[.val (.long q1), .second, .val (.int p2), .val (.int p3), .val (.long q4), .second, .val (.long (4503599627370496 : Int64)), .second, .val (.long v2), .second, .val (.int v4), .val (.long v6), .second, .val (.ref b7), .val (.long v27), .second, .val (.long v30), .second, .val (.long v32), .second, .unset, .unset, .unset, .unset] [])) _
      refine XS.lload X16.here hx rfl (hb hby at_95) rfl ?_
      show Steps p.tables e below (T16.setTop (mkF m 97 #[.val (.long q1), .second, .val (.int p2), .val (.int p3), .val (.long q4), .second, .val (.long (4503599627370496 : Int64)), .second, .val (.long v2), .second, .val (.int v4), .val (.long v6), .second, .val (.ref b7), .val (.long v27), .second, .val (.long v30), .second, .val (.long v32), .second, .unset, .unset, .unset, .unset] [(.long v2)])) _
      refine XS.lload X16.here hx rfl (hb hby at_97) rfl ?_
      show Steps p.tables e below (T16.setTop (mkF m 99 #[.val (.long q1), .second, .val (.int p2), .val (.int p3), .val (.long q4), .second, .val (.long (4503599627370496 : Int64)), .second, .val (.long v2), .second, .val (.int v4), .val (.long v6), .second, .val (.ref b7), .val (.long v27), .second, .val (.long v30), .second, .val (.long v32), .second, .unset, .unset, .unset, .unset] [(.long (4503599627370496 : Int64)), (.long v2)])) _
      refine XS.lcmp X16.here hx rfl (hb hby at_99) rfl ?_
      show Steps p.tables e below (T16.setTop (mkF m 100 #[.val (.long q1), .second, .val (.int p2), .val (.int p3), .val (.long q4), .second, .val (.long (4503599627370496 : Int64)), .second, .val (.long v2), .second, .val (.int v4), .val (.long v6), .second, .val (.ref b7), .val (.long v27), .second, .val (.long v30), .second, .val (.long v32), .second, .unset, .unset, .unset, .unset] [(.int (lcmpW v2 (4503599627370496 : Int64)))])) _
      refine XS.ifYes X16.here hx rfl (pc0 := 100) (pc' := 110) rfl (hb hby at_100) rfl (jfeq hb0_100).2 (by decide) (by decide) ?_
      show Steps p.tables e below (T16.setTop (mkF m 110 #[.val (.long q1), .second, .val (.int p2), .val (.int p3), .val (.long q4), .second, .val (.long (4503599627370496 : Int64)), .second, .val (.long v2), .second, .val (.int v4), .val (.long v6), .second, .val (.ref b7), .val (.long v27), .second, .val (.long v30), .second, .val (.long v32), .second, .unset, .unset, .unset, .unset] [])) _
      refine XS.lconst X16.here hx rfl (hb hby at_110) ?_
      show Steps p.tables e below (T16.setTop (mkF m 111 #[.val (.long q1), .second, .val (.int p2), .val (.int p3), .val (.long q4), .second, .val (.long (4503599627370496 : Int64)), .second, .val (.long v2), .second, .val (.int v4), .val (.long v6), .second, .val (.ref b7), .val (.long v27), .second, .val (.long v30), .second, .val (.long v32), .second, .unset, .unset, .unset, .unset] [(.long (1 : Int64))])) _
      refine XS.iload X16.here hx rfl (hb hby at_111) rfl ?_
      show Steps p.tables e below (T16.setTop (mkF m 113 #[.val (.long q1), .second, .val (.int p2), .val (.int p3), .val (.long q4), .second, .val (.long (4503599627370496 : Int64)), .second, .val (.long v2), .second, .val (.int v4), .val (.long v6), .second, .val (.ref b7), .val (.long v27), .second, .val (.long v30), .second, .val (.long v32), .second, .unset, .unset, .unset, .unset] [(.int v4), (.long (1 : Int64))])) _
      refine XS.iconst X16.here hx rfl (hb hby at_113) ?_
      show Steps p.tables e below (T16.setTop (mkF m 114 #[.val (.long q1), .second, .val (.int p2), .val (.int p3), .val (.long q4), .second, .val (.long (4503599627370496 : Int64)), .second, .val (.long v2), .second, .val (.int v4), .val (.long v6), .second, .val (.ref b7), .val (.long v27), .second, .val (.long v30), .second, .val (.long v32), .second, .unset, .unset, .unset, .unset] [(.int (1 : Int32)), (.int v4), (.long (1 : Int64))])) _
      refine XS.iadd X16.here hx rfl (hb hby at_114) rfl ?_
      show Steps p.tables e below (T16.setTop (mkF m 115 #[.val (.long q1), .second, .val (.int p2), .val (.int p3), .val (.long q4), .second, .val (.long (4503599627370496 : Int64)), .second, .val (.long v2), .second, .val (.int v4), .val (.long v6), .second, .val (.ref b7), .val (.long v27), .second, .val (.long v30), .second, .val (.long v32), .second, .unset, .unset, .unset, .unset] [(.int (v4 + (1 : Int32))), (.long (1 : Int64))])) _
      refine XS.lshl X16.here hx rfl (hb hby at_115) rfl ?_
      exact kq
  obtain ⟨v35, hj36, pre36⟩ : ∃ v35 : Int32, (((v2 &&& (1 : Int64)) = (0 : Int64) ∧ v35 = (1 : Int32)) ∨ (¬ ((v2 &&& (1 : Int64)) = (0 : Int64)) ∧ v35 = (0 : Int32))) ∧ (∀ tq, Steps p.tables e below (T16.setTop (mkF m 132 #[.val (.long q1), .second, .val (.int p2), .val (.int p3), .val (.long q4), .second, .val (.long (4503599627370496 : Int64)), .second, .val (.long v2), .second, .val (.int v4), .val (.long v6), .second, .val (.ref b7), .val (.long v27), .second, .val (.long v30), .second, .val (.long v32), .second, .val (.long v33), .second, .unset, .unset] [(.int v35)])) tq → Steps p.tables e below (s₁.setTop (entryFrame m #[(.long q1), (.int p2), (.int p3), (.long q4)] maxLocals)) tq) := by
    by_cases hb0_124 : (v2 &&& (1 : Int64)) = (0 : Int64)
    · skip
      refine ⟨(1 : Int32), Or.inl (⟨hb0_124, rfl⟩), fun tq kq => pre34 tq ?_⟩
      show Steps p.tables e below (T16.setTop (mkF m 116 #[.val (.long q1), .second, .val (.int p2), .val (.int p3), .val (.long q4), .second, .val (.long (4503599627370496 : Int64)), .second, .val (.long v2), .second, .val (.int v4), .val (.long v6), .second, .val (.ref b7), .val (.long v27), .second, .val (.long v30), .second, .val (.long v32), .second, .unset, .unset, .unset, .unset] [(.long v33)])) _
      refine XS.lstore X16.here hx rfl (hb hby at_116) rfl (l' := #[.val (.long q1), .second, .val (.int p2), .val (.int p3), .val (.long q4), .second, .val (.long (4503599627370496 : Int64)), .second, .val (.long v2), .second, .val (.int v4), .val (.long v6), .second, .val (.ref b7), .val (.long v27), .second, .val (.long v30), .second, .val (.long v32), .second, .val (.long v33), .second, .unset, .unset]) rfl ?_
      show Steps p.tables e below (T16.setTop (mkF m 118 #[.val (.long q1), .second, .val (.int p2), .val (.int p3), .val (.long q4), .second, .val (.long (4503599627370496 : Int64)), .second, .val (.long v2), .second, .val (.int v4), .val (.long v6), .second, .val (.ref b7), .val (.long v27), .second, .val (.long v30), .second, .val (.long v32), .second, .val (.long v33), .second, .unset, .unset] [])) _
      refine XS.lload X16.here hx rfl (hb hby at_118) rfl ?_
      show Steps p.tables e below (T16.setTop (mkF m 120 #[.val (.long q1), .second, .val (.int p2), .val (.int p3), .val (.long q4), .second, .val (.long (4503599627370496 : Int64)), .second, .val (.long v2), .second, .val (.int v4), .val (.long v6), .second, .val (.ref b7), .val (.long v27), .second, .val (.long v30), .second, .val (.long v32), .second, .val (.long v33), .second, .unset, .unset] [(.long v2)])) _
      refine XS.lconst X16.here hx rfl (hb hby at_120) ?_
      show Steps p.tables e below (T16.setTop (mkF m 121 #[.val (.long q1), .second, .val (.int p2), .val (.int p3), .val (.long q4), .second, .val (.long (4503599627370496 : Int64)), .second, .val (.long v2), .second, .val (.int v4), .val (.long v6), .second, .val (.ref b7), .val (.long v27), .second, .val (.long v30), .second, .val (.long v32), .second, .val (.long v33), .second, .unset, .unset] [(.long (1 : Int64)), (.long v2)])) _
      refine XS.land X16.here hx rfl (hb hby at_121) rfl ?_
      show Steps p.tables e below (T16.setTop (mkF m 122 #[.val (.long q1), .second, .val (.int p2), .val (.int p3), .val (.long q4), .second, .val (.long (4503599627370496 : Int64)), .second, .val (.long v2), .second, .val (.int v4), .val (.long v6), .second, .val (.ref b7), .val (.long v27), .second, .val (.long v30), .second, .val (.long v32), .second, .val (.long v33), .second, .unset, .unset] [(.long (v2 &&& (1 : Int64)))])) _
      refine XS.lconst X16.here hx rfl (hb hby at_122) ?_
      show Steps p.tables e below (T16.setTop (mkF m 123 #[.val (.long q1), .second, .val (.int p2), .val (.int p3), .val (.long q4), .second, .val (.long (4503599627370496 : Int64)), .second, .val (.long v2), .second, .val (.int v4), .val (.long v6), .second, .val (.ref b7), .val (.long v27), .second, .val (.long v30), .second, .val (.long v32), .second, .val (.long v33), .second, .unset, .unset] [(.long (0 : Int64)), (.long (v2 &&& (1 : Int64)))])) _
      refine XS.lcmp X16.here hx rfl (hb hby at_123) rfl ?_
      show Steps p.tables e below (T16.setTop (mkF m 124 #[.val (.long q1), .second, .val (.int p2), .val (.int p3), .val (.long q4), .second, .val (.long (4503599627370496 : Int64)), .second, .val (.long v2), .second, .val (.int v4), .val (.long v6), .second, .val (.ref b7), .val (.long v27), .second, .val (.long v30), .second, .val (.long v32), .second, .val (.long v33), .second, .unset, .unset] [(.int (lcmpW (v2 &&& (1 : Int64)) (0 : Int64)))])) _
      refine XS.ifNo X16.here hx rfl (hb hby at_124) rfl (jteq hb0_124).2 ?_
      show Steps p.tables e below (T16.setTop (mkF m 127 #[.val (.long q1), .second, .val (.int p2), .val (.int p3), .val (.long q4), .second, .val (.long (4503599627370496 : Int64)), .second, .val (.long v2), .second, .val (.int v4), .val (.long v6), .second, .val (.ref b7), .val (.long v27), .second, .val (.long v30), .second, .val (.long v32), .second, .val (.long v33), .second, .unset, .unset] [])) _
      refine XS.iconst X16.here hx rfl (hb hby at_127) ?_
      show Steps p.tables e below (T16.setTop (mkF m 128 #[.val (.long q1), .second, .val (.int p2), .val (.int p3), .val (.long q4), .second, .val (.long (4503599627370496 : Int64)), .second, .val (.long v2), .second, .val (.int v4), .val (.long v6), .second, .val (.ref b7), .val (.long v27), .second, .val (.long v30), .second, .val (.long v32), .second, .val (.long v33), .second, .unset, .unset] [(.int (1 : Int32))])) _
      refine XS.goto X16.here hx rfl (pc0 := 128) (pc' := 132) rfl (hb hby at_128) (by decide) (by decide) ?_
      exact kq
    · skip
      refine ⟨(0 : Int32), Or.inr (⟨hb0_124, rfl⟩), fun tq kq => pre34 tq ?_⟩
      show Steps p.tables e below (T16.setTop (mkF m 116 #[.val (.long q1), .second, .val (.int p2), .val (.int p3), .val (.long q4), .second, .val (.long (4503599627370496 : Int64)), .second, .val (.long v2), .second, .val (.int v4), .val (.long v6), .second, .val (.ref b7), .val (.long v27), .second, .val (.long v30), .second, .val (.long v32), .second, .unset, .unset, .unset, .unset] [(.long v33)])) _
      refine XS.lstore X16.here hx rfl (hb hby at_116) rfl (l' := #[.val (.long q1), .second, .val (.int p2), .val (.int p3), .val (.long q4), .second, .val (.long (4503599627370496 : Int64)), .second, .val (.long v2), .second, .val (.int v4), .val (.long v6), .second, .val (.ref b7), .val (.long v27), .second, .val (.long v30), .second, .val (.long v32), .second, .val (.long v33), .second, .unset, .unset]) rfl ?_
      show Steps p.tables e below (T16.setTop (mkF m 118 #[.val (.long q1), .second, .val (.int p2), .val (.int p3), .val (.long q4), .second, .val (.long (4503599627370496 : Int64)), .second, .val (.long v2), .second, .val (.int v4), .val (.long v6), .second, .val (.ref b7), .val (.long v27), .second, .val (.long v30), .second, .val (.long v32), .second, .val (.long v33), .second, .unset, .unset] [])) _
      refine XS.lload X16.here hx rfl (hb hby at_118) rfl ?_
      show Steps p.tables e below (T16.setTop (mkF m 120 #[.val (.long q1), .second, .val (.int p2), .val (.int p3), .val (.long q4), .second, .val (.long (4503599627370496 : Int64)), .second, .val (.long v2), .second, .val (.int v4), .val (.long v6), .second, .val (.ref b7), .val (.long v27), .second, .val (.long v30), .second, .val (.long v32), .second, .val (.long v33), .second, .unset, .unset] [(.long v2)])) _
      refine XS.lconst X16.here hx rfl (hb hby at_120) ?_
      show Steps p.tables e below (T16.setTop (mkF m 121 #[.val (.long q1), .second, .val (.int p2), .val (.int p3), .val (.long q4), .second, .val (.long (4503599627370496 : Int64)), .second, .val (.long v2), .second, .val (.int v4), .val (.long v6), .second, .val (.ref b7), .val (.long v27), .second, .val (.long v30), .second, .val (.long v32), .second, .val (.long v33), .second, .unset, .unset] [(.long (1 : Int64)), (.long v2)])) _
      refine XS.land X16.here hx rfl (hb hby at_121) rfl ?_
      show Steps p.tables e below (T16.setTop (mkF m 122 #[.val (.long q1), .second, .val (.int p2), .val (.int p3), .val (.long q4), .second, .val (.long (4503599627370496 : Int64)), .second, .val (.long v2), .second, .val (.int v4), .val (.long v6), .second, .val (.ref b7), .val (.long v27), .second, .val (.long v30), .second, .val (.long v32), .second, .val (.long v33), .second, .unset, .unset] [(.long (v2 &&& (1 : Int64)))])) _
      refine XS.lconst X16.here hx rfl (hb hby at_122) ?_
      show Steps p.tables e below (T16.setTop (mkF m 123 #[.val (.long q1), .second, .val (.int p2), .val (.int p3), .val (.long q4), .second, .val (.long (4503599627370496 : Int64)), .second, .val (.long v2), .second, .val (.int v4), .val (.long v6), .second, .val (.ref b7), .val (.long v27), .second, .val (.long v30), .second, .val (.long v32), .second, .val (.long v33), .second, .unset, .unset] [(.long (0 : Int64)), (.long (v2 &&& (1 : Int64)))])) _
      refine XS.lcmp X16.here hx rfl (hb hby at_123) rfl ?_
      show Steps p.tables e below (T16.setTop (mkF m 124 #[.val (.long q1), .second, .val (.int p2), .val (.int p3), .val (.long q4), .second, .val (.long (4503599627370496 : Int64)), .second, .val (.long v2), .second, .val (.int v4), .val (.long v6), .second, .val (.ref b7), .val (.long v27), .second, .val (.long v30), .second, .val (.long v32), .second, .val (.long v33), .second, .unset, .unset] [(.int (lcmpW (v2 &&& (1 : Int64)) (0 : Int64)))])) _
      refine XS.ifYes X16.here hx rfl (pc0 := 124) (pc' := 131) rfl (hb hby at_124) rfl (jfeq hb0_124).2 (by decide) (by decide) ?_
      show Steps p.tables e below (T16.setTop (mkF m 131 #[.val (.long q1), .second, .val (.int p2), .val (.int p3), .val (.long q4), .second, .val (.long (4503599627370496 : Int64)), .second, .val (.long v2), .second, .val (.int v4), .val (.long v6), .second, .val (.ref b7), .val (.long v27), .second, .val (.long v30), .second, .val (.long v32), .second, .val (.long v33), .second, .unset, .unset] [])) _
      refine XS.iconst X16.here hx rfl (hb hby at_131) ?_
      exact kq
  obtain ⟨v37, hj38, pre38⟩ : ∃ v37 : Int32, ((v32 < v30 ∧ v37 = (1 : Int32)) ∨ (¬ (v32 < v30) ∧ v30 = v32 ∧ v35 = (0 : Int32) ∧ v37 = (1 : Int32)) ∨ (¬ (v32 < v30) ∧ v30 = v32 ∧ ¬ (v35 = (0 : Int32)) ∧ v30 < ((-v33)) ∧ v37 = (-1 : Int32)) ∨ (¬ (v32 < v30) ∧ v30 = v32 ∧ ¬ (v35 = (0 : Int32)) ∧ ¬ (v30 < ((-v33))) ∧ v30 = ((-v33)) ∧ v35 = (0 : Int32) ∧ v37 = (-1 : Int32)) ∨ (¬ (v32 < v30) ∧ v30 = v32 ∧ ¬ (v35 = (0 : Int32)) ∧ ¬ (v30 < ((-v33))) ∧ v30 = ((-v33)) ∧ ¬ (v35 = (0 : Int32)) ∧ v37 = (0 : Int32)) ∨ (¬ (v32 < v30) ∧ v30 = v32 ∧ ¬ (v35 = (0 : Int32)) ∧ ¬ (v30 < ((-v33))) ∧ ¬ (v30 = ((-v33))) ∧ v37 = (0 : Int32)) ∨ (¬ (v32 < v30) ∧ ¬ (v30 = v32) ∧ v30 < ((-v33)) ∧ v37 = (-1 : Int32)) ∨ (¬ (v32 < v30) ∧ ¬ (v30 = v32) ∧ ¬ (v30 < ((-v33))) ∧ v30 = ((-v33)) ∧ v35 = (0 : Int32) ∧ v37 = (-1 : Int32)) ∨ (¬ (v32 < v30) ∧ ¬ (v30 = v32) ∧ ¬ (v30 < ((-v33))) ∧ v30 = ((-v33)) ∧ ¬ (v35 = (0 : Int32)) ∧ v37 = (0 : Int32)) ∨ (¬ (v32 < v30) ∧ ¬ (v30 = v32) ∧ ¬ (v30 < ((-v33))) ∧ ¬ (v30 = ((-v33))) ∧ v37 = (0 : Int32))) ∧ (∀ tq, Steps p.tables e below (T16.setTop (mkF m 193 #[.val (.long q1), .second, .val (.int p2), .val (.int p3), .val (.long q4), .second, .val (.long (4503599627370496 : Int64)), .second, .val (.long v2), .second, .val (.int v4), .val (.long v6), .second, .val (.ref b7), .val (.long v27), .second, .val (.long v30), .second, .val (.long v32), .second, .val (.long v33), .second, .val (.int v35), .val (.int v37)] [])) tq → Steps p.tables e below (s₁.setTop (entryFrame m #[(.long q1), (.int p2), (.int p3), (.long q4)] maxLocals)) tq) := by
    by_cases hb0_139 : v32 < v30
    · skip
      refine ⟨(1 : Int32), Or.inl (⟨hb0_139, rfl⟩), fun tq kq => pre36 tq ?_⟩
      show Steps p.tables e below (T16.setTop (mkF m 132 #[.val (.long q1), .second, .val (.int p2), .val (.int p3), .val (.long q4), .second, .val (.long (4503599627370496 : Int64)), .second, .val (.long v2), .second, .val (.int v4), .val (.long v6), .second, .val (.ref b7), .val (.long v27), .second, .val (.long v30), .second, .val (.long v32), .second, .val (.long v33), .second, .unset, .unset] [(.int v35)])) _
      refine XS.istore X16.here hx rfl (hb hby at_132) rfl (l' := #[.val (.long q1), .second, .val (.int p2), .val (.int p3), .val (.long q4), .second, .val (.long (4503599627370496 : Int64)), .second, .val (.long v2), .second, .val (.int v4), .val (.long v6), .second, .val (.ref b7), .val (.long v27), .second, .val (.long v30), .second, .val (.long v32), .second, .val (.long v33), .second, .val (.int v35), .unset]) rfl ?_
      show Steps p.tables e below (T16.setTop (mkF m 134 #[.val (.long q1), .second, .val (.int p2), .val (.int p3), .val (.long q4), .second, .val (.long (4503599627370496 : Int64)), .second, .val (.long v2), .second, .val (.int v4), .val (.long v6), .second, .val (.ref b7), .val (.long v27), .second, .val (.long v30), .second, .val (.long v32), .second, .val (.long v33), .second, .val (.int v35), .unset] [])) _
      refine XS.lload X16.here hx rfl (hb hby at_134) rfl ?_
      show Steps p.tables e below (T16.setTop (mkF m 136 #[.val (.long q1), .second, .val (.int p2), .val (.int p3), .val (.long q4), .second, .val (.long (4503599627370496 : Int64)), .second, .val (.long v2), .second, .val (.int v4), .val (.long v6), .second, .val (.ref b7), .val (.long v27), .second, .val (.long v30), .second, .val (.long v32), .second, .val (.long v33), .second, .val (.int v35), .unset] [(.long v30)])) _
      refine XS.lload X16.here hx rfl (hb hby at_136) rfl ?_
      show Steps p.tables e below (T16.setTop (mkF m 138 #[.val (.long q1), .second, .val (.int p2), .val (.int p3), .val (.long q4), .second, .val (.long (4503599627370496 : Int64)), .second, .val (.long v2), .second, .val (.int v4), .val (.long v6), .second, .val (.ref b7), .val (.long v27), .second, .val (.long v30), .second, .val (.long v32), .second, .val (.long v33), .second, .val (.int v35), .unset] [(.long v32), (.long v30)])) _
      refine XS.lcmp X16.here hx rfl (hb hby at_138) rfl ?_
      show Steps p.tables e below (T16.setTop (mkF m 139 #[.val (.long q1), .second, .val (.int p2), .val (.int p3), .val (.long q4), .second, .val (.long (4503599627370496 : Int64)), .second, .val (.long v2), .second, .val (.int v4), .val (.long v6), .second, .val (.ref b7), .val (.long v27), .second, .val (.long v30), .second, .val (.long v32), .second, .val (.long v33), .second, .val (.int v35), .unset] [(.int (lcmpW v30 v32))])) _
      refine XS.ifYes X16.here hx rfl (pc0 := 139) (pc' := 155) rfl (hb hby at_139) rfl (jtlt hb0_139).2.2.1 (by decide) (by decide) ?_
      show Steps p.tables e below (T16.setTop (mkF m 155 #[.val (.long q1), .second, .val (.int p2), .val (.int p3), .val (.long q4), .second, .val (.long (4503599627370496 : Int64)), .second, .val (.long v2), .second, .val (.int v4), .val (.long v6), .second, .val (.ref b7), .val (.long v27), .second, .val (.long v30), .second, .val (.long v32), .second, .val (.long v33), .second, .val (.int v35), .unset] [])) _
      refine XS.iconst X16.here hx rfl (hb hby at_155) ?_
      show Steps p.tables e below (T16.setTop (mkF m 156 #[.val (.long q1), .second, .val (.int p2), .val (.int p3), .val (.long q4), .second, .val (.long (4503599627370496 : Int64)), .second, .val (.long v2), .second, .val (.int v4), .val (.long v6), .second, .val (.ref b7), .val (.long v27), .second, .val (.long v30), .second, .val (.long v32), .second, .val (.long v33), .second, .val (.int v35), .unset] [(.int (1 : Int32))])) _
      refine XS.istore X16.here hx rfl (hb hby at_156) rfl (l' := #[.val (.long q1), .second, .val (.int p2), .val (.int p3), .val (.long q4), .second, .val (.long (4503599627370496 : Int64)), .second, .val (.long v2), .second, .val (.int v4), .val (.long v6), .second, .val (.ref b7), .val (.long v27), .second, .val (.long v30), .second, .val (.long v32), .second, .val (.long v33), .second, .val (.int v35), .val (.int (1 : Int32))]) rfl ?_
      show Steps p.tables e below (T16.setTop (mkF m 158 #[.val (.long q1), .second, .val (.int p2), .val (.int p3), .val (.long q4), .second, .val (.long (4503599627370496 : Int64)), .second, .val (.long v2), .second, .val (.int v4), .val (.long v6), .second, .val (.ref b7), .val (.long v27), .second, .val (.long v30), .second, .val (.long v32), .second, .val (.long v33), .second, .val (.int v35), .val (.int (1 : Int32))] [])) _
      refine XS.goto X16.here hx rfl (pc0 := 158) (pc' := 193) rfl (hb hby at_158) (by decide) (by decide) ?_
      exact kq
    · skip
      by_cases hb1_147 : v30 = v32
      · skip
        by_cases hb2_152 : v35 = (0 : Int32)
        · skip
          refine ⟨(1 : Int32), Or.inr (Or.inl (⟨hb0_139, hb1_147, hb2_152, rfl⟩)), fun tq kq => pre36 tq ?_⟩
          show Steps p.tables e below (T16.setTop (mkF m 132 #[.val (.long q1), .second, .val (.int p2), .val (.int p3), .val (.long q4), .second, .val (.long (4503599627370496 : Int64)), .second, .val (.long v2), .second, .val (.int v4), .val (.long v6), .second, .val (.ref b7), .val (.long v27), .second, .val (.long v30), .second, .val (.long v32), .second, .val (.long v33), .second, .unset, .unset] [(.int v35)])) _
          refine XS.istore X16.here hx rfl (hb hby at_132) rfl (l' := #[.val (.long q1), .second, .val (.int p2), .val (.int p3), .val (.long q4), .second, .val (.long (4503599627370496 : Int64)), .second, .val (.long v2), .second, .val (.int v4), .val (.long v6), .second, .val (.ref b7), .val (.long v27), .second, .val (.long v30), .second, .val (.long v32), .second, .val (.long v33), .second, .val (.int v35), .unset]) rfl ?_
          show Steps p.tables e below (T16.setTop (mkF m 134 #[.val (.long q1), .second, .val (.int p2), .val (.int p3), .val (.long q4), .second, .val (.long (4503599627370496 : Int64)), .second, .val (.long v2), .second, .val (.int v4), .val (.long v6), .second, .val (.ref b7), .val (.long v27), .second, .val (.long v30), .second, .val (.long v32), .second, .val (.long v33), .second, .val (.int v35), .unset] [])) _
          refine XS.lload X16.here hx rfl (hb hby at_134) rfl ?_
          show Steps p.tables e below (T16.setTop (mkF m 136 #[.val (.long q1), .second, .val (.int p2), .val (.int p3), .val (.long q4), .second, .val (.long (4503599627370496 : Int64)), .second, .val (.long v2), .second, .val (.int v4), .val (.long v6), .second, .val (.ref b7), .val (.long v27), .second, .val (.long v30), .second, .val (.long v32), .second, .val (.long v33), .second, .val (.int v35), .unset] [(.long v30)])) _
          refine XS.lload X16.here hx rfl (hb hby at_136) rfl ?_
          show Steps p.tables e below (T16.setTop (mkF m 138 #[.val (.long q1), .second, .val (.int p2), .val (.int p3), .val (.long q4), .second, .val (.long (4503599627370496 : Int64)), .second, .val (.long v2), .second, .val (.int v4), .val (.long v6), .second, .val (.ref b7), .val (.long v27), .second, .val (.long v30), .second, .val (.long v32), .second, .val (.long v33), .second, .val (.int v35), .unset] [(.long v32), (.long v30)])) _
          refine XS.lcmp X16.here hx rfl (hb hby at_138) rfl ?_
          show Steps p.tables e below (T16.setTop (mkF m 139 #[.val (.long q1), .second, .val (.int p2), .val (.int p3), .val (.long q4), .second, .val (.long (4503599627370496 : Int64)), .second, .val (.long v2), .second, .val (.int v4), .val (.long v6), .second, .val (.ref b7), .val (.long v27), .second, .val (.long v30), .second, .val (.long v32), .second, .val (.long v33), .second, .val (.int v35), .unset] [(.int (lcmpW v30 v32))])) _
          refine XS.ifNo X16.here hx rfl (hb hby at_139) rfl (jflt hb0_139).2.2.1 ?_
          show Steps p.tables e below (T16.setTop (mkF m 142 #[.val (.long q1), .second, .val (.int p2), .val (.int p3), .val (.long q4), .second, .val (.long (4503599627370496 : Int64)), .second, .val (.long v2), .second, .val (.int v4), .val (.long v6), .second, .val (.ref b7), .val (.long v27), .second, .val (.long v30), .second, .val (.long v32), .second, .val (.long v33), .second, .val (.int v35), .unset] [])) _
          refine XS.lload X16.here hx rfl (hb hby at_142) rfl ?_
          show Steps p.tables e below (T16.setTop (mkF m 144 #[.val (.long q1), .second, .val (.int p2), .val (.int p3), .val (.long q4), .second, .val (.long (4503599627370496 : Int64)), .second, .val (.long v2), .second, .val (.int v4), .val (.long v6), .second, .val (.ref b7), .val (.long v27), .second, .val (.long v30), .second, .val (.long v32), .second, .val (.long v33), .second, .val (.int v35), .unset] [(.long v30)])) _
          refine XS.lload X16.here hx rfl (hb hby at_144) rfl ?_
          show Steps p.tables e below (T16.setTop (mkF m 146 #[.val (.long q1), .second, .val (.int p2), .val (.int p3), .val (.long q4), .second, .val (.long (4503599627370496 : Int64)), .second, .val (.long v2), .second, .val (.int v4), .val (.long v6), .second, .val (.ref b7), .val (.long v27), .second, .val (.long v30), .second, .val (.long v32), .second, .val (.long v33), .second, .val (.int v35), .unset] [(.long v32), (.long v30)])) _
          refine XS.lcmp X16.here hx rfl (hb hby at_146) rfl ?_
          show Steps p.tables e below (T16.setTop (mkF m 147 #[.val (.long q1), .second, .val (.int p2), .val (.int p3), .val (.long q4), .second, .val (.long (4503599627370496 : Int64)), .second, .val (.long v2), .second, .val (.int v4), .val (.long v6), .second, .val (.ref b7), .val (.long v27), .second, .val (.long v30), .second, .val (.long v32), .second, .val (.long v33), .second, .val (.int v35), .unset] [(.int (lcmpW v30 v32))])) _
          refine XS.ifNo X16.here hx rfl (hb hby at_147) rfl (jteq hb1_147).2 ?_
          show Steps p.tables e below (T16.setTop (mkF m 150 #[.val (.long q1), .second, .val (.int p2), .val (.int p3), .val (.long q4), .second, .val (.long (4503599627370496 : Int64)), .second, .val (.long v2), .second, .val (.int v4), .val (.long v6), .second, .val (.ref b7), .val (.long v27), .second, .val (.long v30), .second, .val (.long v32), .second, .val (.long v33), .second, .val (.int v35), .unset] [])) _
          refine XS.iload X16.here hx rfl (hb hby at_150) rfl ?_
          show Steps p.tables e below (T16.setTop (mkF m 152 #[.val (.long q1), .second, .val (.int p2), .val (.int p3), .val (.long q4), .second, .val (.long (4503599627370496 : Int64)), .second, .val (.long v2), .second, .val (.int v4), .val (.long v6), .second, .val (.ref b7), .val (.long v27), .second, .val (.long v30), .second, .val (.long v32), .second, .val (.long v33), .second, .val (.int v35), .unset] [(.int v35)])) _
          refine XS.ifNo X16.here hx rfl (hb hby at_152) rfl ((if0 _ _).trans (teq hb2_152).2) ?_
          show Steps p.tables e below (T16.setTop (mkF m 155 #[.val (.long q1), .second, .val (.int p2), .val (.int p3), .val (.long q4), .second, .val (.long (4503599627370496 : Int64)), .second, .val (.long v2), .second, .val (.int v4), .val (.long v6), .second, .val (.ref b7), .val (.long v27), .second, .val (.long v30), .second, .val (.long v32), .second, .val (.long v33), .second, .val (.int v35), .unset] [])) _
          refine XS.iconst X16.here hx rfl (hb hby at_155) ?_
          show Steps p.tables e below (T16.setTop (mkF m 156 #[.val (.long q1), .second, .val (.int p2), .val (.int p3), .val (.long q4), .second, .val (.long (4503599627370496 : Int64)), .second, .val (.long v2), .second, .val (.int v4), .val (.long v6), .second, .val (.ref b7), .val (.long v27), .second, .val (.long v30), .second, .val (.long v32), .second, .val (.long v33), .second, .val (.int v35), .unset] [(.int (1 : Int32))])) _
          refine XS.istore X16.here hx rfl (hb hby at_156) rfl (l' := #[.val (.long q1), .second, .val (.int p2), .val (.int p3), .val (.long q4), .second, .val (.long (4503599627370496 : Int64)), .second, .val (.long v2), .second, .val (.int v4), .val (.long v6), .second, .val (.ref b7), .val (.long v27), .second, .val (.long v30), .second, .val (.long v32), .second, .val (.long v33), .second, .val (.int v35), .val (.int (1 : Int32))]) rfl ?_
          show Steps p.tables e below (T16.setTop (mkF m 158 #[.val (.long q1), .second, .val (.int p2), .val (.int p3), .val (.long q4), .second, .val (.long (4503599627370496 : Int64)), .second, .val (.long v2), .second, .val (.int v4), .val (.long v6), .second, .val (.ref b7), .val (.long v27), .second, .val (.long v30), .second, .val (.long v32), .second, .val (.long v33), .second, .val (.int v35), .val (.int (1 : Int32))] [])) _
          refine XS.goto X16.here hx rfl (pc0 := 158) (pc' := 193) rfl (hb hby at_158) (by decide) (by decide) ?_
          exact kq
        · skip
          by_cases hb3_167 : v30 < ((-v33))
          · skip
            refine ⟨(-1 : Int32), Or.inr (Or.inr (Or.inl (⟨hb0_139, hb1_147, hb2_152, hb3_167, rfl⟩))), fun tq kq => pre36 tq ?_⟩
            show Steps p.tables e below (T16.setTop (mkF m 132 #[.val (.long q1), .second, .val (.int p2), .val (.int p3), .val (.long q4), .second, .val (.long (4503599627370496 : Int64)), .second, .val (.long v2), .second, .val (.int v4), .val (.long v6), .second, .val (.ref b7), .val (.long v27), .second, .val (.long v30), .second, .val (.long v32), .second, .val (.long v33), .second, .unset, .unset] [(.int v35)])) _
            refine XS.istore X16.here hx rfl (hb hby at_132) rfl (l' := #[.val (.long q1), .second, .val (.int p2), .val (.int p3), .val (.long q4), .second, .val (.long (4503599627370496 : Int64)), .second, .val (.long v2), .second, .val (.int v4), .val (.long v6), .second, .val (.ref b7), .val (.long v27), .second, .val (.long v30), .second, .val (.long v32), .second, .val (.long v33), .second, .val (.int v35), .unset]) rfl ?_
            show Steps p.tables e below (T16.setTop (mkF m 134 #[.val (.long q1), .second, .val (.int p2), .val (.int p3), .val (.long q4), .second, .val (.long (4503599627370496 : Int64)), .second, .val (.long v2), .second, .val (.int v4), .val (.long v6), .second, .val (.ref b7), .val (.long v27), .second, .val (.long v30), .second, .val (.long v32), .second, .val (.long v33), .second, .val (.int v35), .unset] [])) _
            refine XS.lload X16.here hx rfl (hb hby at_134) rfl ?_
            show Steps p.tables e below (T16.setTop (mkF m 136 #[.val (.long q1), .second, .val (.int p2), .val (.int p3), .val (.long q4), .second, .val (.long (4503599627370496 : Int64)), .second, .val (.long v2), .second, .val (.int v4), .val (.long v6), .second, .val (.ref b7), .val (.long v27), .second, .val (.long v30), .second, .val (.long v32), .second, .val (.long v33), .second, .val (.int v35), .unset] [(.long v30)])) _
            refine XS.lload X16.here hx rfl (hb hby at_136) rfl ?_
            show Steps p.tables e below (T16.setTop (mkF m 138 #[.val (.long q1), .second, .val (.int p2), .val (.int p3), .val (.long q4), .second, .val (.long (4503599627370496 : Int64)), .second, .val (.long v2), .second, .val (.int v4), .val (.long v6), .second, .val (.ref b7), .val (.long v27), .second, .val (.long v30), .second, .val (.long v32), .second, .val (.long v33), .second, .val (.int v35), .unset] [(.long v32), (.long v30)])) _
            refine XS.lcmp X16.here hx rfl (hb hby at_138) rfl ?_
            show Steps p.tables e below (T16.setTop (mkF m 139 #[.val (.long q1), .second, .val (.int p2), .val (.int p3), .val (.long q4), .second, .val (.long (4503599627370496 : Int64)), .second, .val (.long v2), .second, .val (.int v4), .val (.long v6), .second, .val (.ref b7), .val (.long v27), .second, .val (.long v30), .second, .val (.long v32), .second, .val (.long v33), .second, .val (.int v35), .unset] [(.int (lcmpW v30 v32))])) _
            refine XS.ifNo X16.here hx rfl (hb hby at_139) rfl (jflt hb0_139).2.2.1 ?_
            show Steps p.tables e below (T16.setTop (mkF m 142 #[.val (.long q1), .second, .val (.int p2), .val (.int p3), .val (.long q4), .second, .val (.long (4503599627370496 : Int64)), .second, .val (.long v2), .second, .val (.int v4), .val (.long v6), .second, .val (.ref b7), .val (.long v27), .second, .val (.long v30), .second, .val (.long v32), .second, .val (.long v33), .second, .val (.int v35), .unset] [])) _
            refine XS.lload X16.here hx rfl (hb hby at_142) rfl ?_
            show Steps p.tables e below (T16.setTop (mkF m 144 #[.val (.long q1), .second, .val (.int p2), .val (.int p3), .val (.long q4), .second, .val (.long (4503599627370496 : Int64)), .second, .val (.long v2), .second, .val (.int v4), .val (.long v6), .second, .val (.ref b7), .val (.long v27), .second, .val (.long v30), .second, .val (.long v32), .second, .val (.long v33), .second, .val (.int v35), .unset] [(.long v30)])) _
            refine XS.lload X16.here hx rfl (hb hby at_144) rfl ?_
            show Steps p.tables e below (T16.setTop (mkF m 146 #[.val (.long q1), .second, .val (.int p2), .val (.int p3), .val (.long q4), .second, .val (.long (4503599627370496 : Int64)), .second, .val (.long v2), .second, .val (.int v4), .val (.long v6), .second, .val (.ref b7), .val (.long v27), .second, .val (.long v30), .second, .val (.long v32), .second, .val (.long v33), .second, .val (.int v35), .unset] [(.long v32), (.long v30)])) _
            refine XS.lcmp X16.here hx rfl (hb hby at_146) rfl ?_
            show Steps p.tables e below (T16.setTop (mkF m 147 #[.val (.long q1), .second, .val (.int p2), .val (.int p3), .val (.long q4), .second, .val (.long (4503599627370496 : Int64)), .second, .val (.long v2), .second, .val (.int v4), .val (.long v6), .second, .val (.ref b7), .val (.long v27), .second, .val (.long v30), .second, .val (.long v32), .second, .val (.long v33), .second, .val (.int v35), .unset] [(.int (lcmpW v30 v32))])) _
            refine XS.ifNo X16.here hx rfl (hb hby at_147) rfl (jteq hb1_147).2 ?_
            show Steps p.tables e below (T16.setTop (mkF m 150 #[.val (.long q1), .second, .val (.int p2), .val (.int p3), .val (.long q4), .second, .val (.long (4503599627370496 : Int64)), .second, .val (.long v2), .second, .val (.int v4), .val (.long v6), .second, .val (.ref b7), .val (.long v27), .second, .val (.long v30), .second, .val (.long v32), .second, .val (.long v33), .second, .val (.int v35), .unset] [])) _
            refine XS.iload X16.here hx rfl (hb hby at_150) rfl ?_
            show Steps p.tables e below (T16.setTop (mkF m 152 #[.val (.long q1), .second, .val (.int p2), .val (.int p3), .val (.long q4), .second, .val (.long (4503599627370496 : Int64)), .second, .val (.long v2), .second, .val (.int v4), .val (.long v6), .second, .val (.ref b7), .val (.long v27), .second, .val (.long v30), .second, .val (.long v32), .second, .val (.long v33), .second, .val (.int v35), .unset] [(.int v35)])) _
            refine XS.ifYes X16.here hx rfl (pc0 := 152) (pc' := 161) rfl (hb hby at_152) rfl ((if0 _ _).trans (feq hb2_152).2) (by decide) (by decide) ?_
            show Steps p.tables e below (T16.setTop (mkF m 161 #[.val (.long q1), .second, .val (.int p2), .val (.int p3), .val (.long q4), .second, .val (.long (4503599627370496 : Int64)), .second, .val (.long v2), .second, .val (.int v4), .val (.long v6), .second, .val (.ref b7), .val (.long v27), .second, .val (.long v30), .second, .val (.long v32), .second, .val (.long v33), .second, .val (.int v35), .unset] [])) _
            refine XS.lload X16.here hx rfl (hb hby at_161) rfl ?_
            show Steps p.tables e below (T16.setTop (mkF m 163 #[.val (.long q1), .second, .val (.int p2), .val (.int p3), .val (.long q4), .second, .val (.long (4503599627370496 : Int64)), .second, .val (.long v2), .second, .val (.int v4), .val (.long v6), .second, .val (.ref b7), .val (.long v27), .second, .val (.long v30), .second, .val (.long v32), .second, .val (.long v33), .second, .val (.int v35), .unset] [(.long v30)])) _
            refine XS.lload X16.here hx rfl (hb hby at_163) rfl ?_
            show Steps p.tables e below (T16.setTop (mkF m 165 #[.val (.long q1), .second, .val (.int p2), .val (.int p3), .val (.long q4), .second, .val (.long (4503599627370496 : Int64)), .second, .val (.long v2), .second, .val (.int v4), .val (.long v6), .second, .val (.ref b7), .val (.long v27), .second, .val (.long v30), .second, .val (.long v32), .second, .val (.long v33), .second, .val (.int v35), .unset] [(.long v33), (.long v30)])) _
            refine XS.lneg X16.here hx rfl (hb hby at_165) rfl ?_
            show Steps p.tables e below (T16.setTop (mkF m 166 #[.val (.long q1), .second, .val (.int p2), .val (.int p3), .val (.long q4), .second, .val (.long (4503599627370496 : Int64)), .second, .val (.long v2), .second, .val (.int v4), .val (.long v6), .second, .val (.ref b7), .val (.long v27), .second, .val (.long v30), .second, .val (.long v32), .second, .val (.long v33), .second, .val (.int v35), .unset] [(.long ((-v33))), (.long v30)])) _
            refine XS.lcmp X16.here hx rfl (hb hby at_166) rfl ?_
            show Steps p.tables e below (T16.setTop (mkF m 167 #[.val (.long q1), .second, .val (.int p2), .val (.int p3), .val (.long q4), .second, .val (.long (4503599627370496 : Int64)), .second, .val (.long v2), .second, .val (.int v4), .val (.long v6), .second, .val (.ref b7), .val (.long v27), .second, .val (.long v30), .second, .val (.long v32), .second, .val (.long v33), .second, .val (.int v35), .unset] [(.int (lcmpW v30 ((-v33))))])) _
            refine XS.ifYes X16.here hx rfl (pc0 := 167) (pc' := 184) rfl (hb hby at_167) rfl (jtlt hb3_167).1 (by decide) (by decide) ?_
            show Steps p.tables e below (T16.setTop (mkF m 184 #[.val (.long q1), .second, .val (.int p2), .val (.int p3), .val (.long q4), .second, .val (.long (4503599627370496 : Int64)), .second, .val (.long v2), .second, .val (.int v4), .val (.long v6), .second, .val (.ref b7), .val (.long v27), .second, .val (.long v30), .second, .val (.long v32), .second, .val (.long v33), .second, .val (.int v35), .unset] [])) _
            refine XS.iconst X16.here hx rfl (hb hby at_184) ?_
            show Steps p.tables e below (T16.setTop (mkF m 185 #[.val (.long q1), .second, .val (.int p2), .val (.int p3), .val (.long q4), .second, .val (.long (4503599627370496 : Int64)), .second, .val (.long v2), .second, .val (.int v4), .val (.long v6), .second, .val (.ref b7), .val (.long v27), .second, .val (.long v30), .second, .val (.long v32), .second, .val (.long v33), .second, .val (.int v35), .unset] [(.int (-1 : Int32))])) _
            refine XS.istore X16.here hx rfl (hb hby at_185) rfl (l' := #[.val (.long q1), .second, .val (.int p2), .val (.int p3), .val (.long q4), .second, .val (.long (4503599627370496 : Int64)), .second, .val (.long v2), .second, .val (.int v4), .val (.long v6), .second, .val (.ref b7), .val (.long v27), .second, .val (.long v30), .second, .val (.long v32), .second, .val (.long v33), .second, .val (.int v35), .val (.int (-1 : Int32))]) rfl ?_
            show Steps p.tables e below (T16.setTop (mkF m 187 #[.val (.long q1), .second, .val (.int p2), .val (.int p3), .val (.long q4), .second, .val (.long (4503599627370496 : Int64)), .second, .val (.long v2), .second, .val (.int v4), .val (.long v6), .second, .val (.ref b7), .val (.long v27), .second, .val (.long v30), .second, .val (.long v32), .second, .val (.long v33), .second, .val (.int v35), .val (.int (-1 : Int32))] [])) _
            refine XS.goto X16.here hx rfl (pc0 := 187) (pc' := 193) rfl (hb hby at_187) (by decide) (by decide) ?_
            exact kq
          · skip
            by_cases hb4_176 : v30 = ((-v33))
            · skip
              by_cases hb5_181 : v35 = (0 : Int32)
              · skip
                refine ⟨(-1 : Int32), Or.inr (Or.inr (Or.inr (Or.inl (⟨hb0_139, hb1_147, hb2_152, hb3_167, hb4_176, hb5_181, rfl⟩)))), fun tq kq => pre36 tq ?_⟩
                show Steps p.tables e below (T16.setTop (mkF m 132 #[.val (.long q1), .second, .val (.int p2), .val (.int p3), .val (.long q4), .second, .val (.long (4503599627370496 : Int64)), .second, .val (.long v2), .second, .val (.int v4), .val (.long v6), .second, .val (.ref b7), .val (.long v27), .second, .val (.long v30), .second, .val (.long v32), .second, .val (.long v33), .second, .unset, .unset] [(.int v35)])) _
                refine XS.istore X16.here hx rfl (hb hby at_132) rfl (l' := #[.val (.long q1), .second, .val (.int p2), .val (.int p3), .val (.long q4), .second, .val (.long (4503599627370496 : Int64)), .second, .val (.long v2), .second, .val (.int v4), .val (.long v6), .second, .val (.ref b7), .val (.long v27), .second, .val (.long v30), .second, .val (.long v32), .second, .val (.long v33), .second, .val (.int v35), .unset]) rfl ?_
                show Steps p.tables e below (T16.setTop (mkF m 134 #[.val (.long q1), .second, .val (.int p2), .val (.int p3), .val (.long q4), .second, .val (.long (4503599627370496 : Int64)), .second, .val (.long v2), .second, .val (.int v4), .val (.long v6), .second, .val (.ref b7), .val (.long v27), .second, .val (.long v30), .second, .val (.long v32), .second, .val (.long v33), .second, .val (.int v35), .unset] [])) _
                refine XS.lload X16.here hx rfl (hb hby at_134) rfl ?_
                show Steps p.tables e below (T16.setTop (mkF m 136 #[.val (.long q1), .second, .val (.int p2), .val (.int p3), .val (.long q4), .second, .val (.long (4503599627370496 : Int64)), .second, .val (.long v2), .second, .val (.int v4), .val (.long v6), .second, .val (.ref b7), .val (.long v27), .second, .val (.long v30), .second, .val (.long v32), .second, .val (.long v33), .second, .val (.int v35), .unset] [(.long v30)])) _
                refine XS.lload X16.here hx rfl (hb hby at_136) rfl ?_
                show Steps p.tables e below (T16.setTop (mkF m 138 #[.val (.long q1), .second, .val (.int p2), .val (.int p3), .val (.long q4), .second, .val (.long (4503599627370496 : Int64)), .second, .val (.long v2), .second, .val (.int v4), .val (.long v6), .second, .val (.ref b7), .val (.long v27), .second, .val (.long v30), .second, .val (.long v32), .second, .val (.long v33), .second, .val (.int v35), .unset] [(.long v32), (.long v30)])) _
                refine XS.lcmp X16.here hx rfl (hb hby at_138) rfl ?_
                show Steps p.tables e below (T16.setTop (mkF m 139 #[.val (.long q1), .second, .val (.int p2), .val (.int p3), .val (.long q4), .second, .val (.long (4503599627370496 : Int64)), .second, .val (.long v2), .second, .val (.int v4), .val (.long v6), .second, .val (.ref b7), .val (.long v27), .second, .val (.long v30), .second, .val (.long v32), .second, .val (.long v33), .second, .val (.int v35), .unset] [(.int (lcmpW v30 v32))])) _
                refine XS.ifNo X16.here hx rfl (hb hby at_139) rfl (jflt hb0_139).2.2.1 ?_
                show Steps p.tables e below (T16.setTop (mkF m 142 #[.val (.long q1), .second, .val (.int p2), .val (.int p3), .val (.long q4), .second, .val (.long (4503599627370496 : Int64)), .second, .val (.long v2), .second, .val (.int v4), .val (.long v6), .second, .val (.ref b7), .val (.long v27), .second, .val (.long v30), .second, .val (.long v32), .second, .val (.long v33), .second, .val (.int v35), .unset] [])) _
                refine XS.lload X16.here hx rfl (hb hby at_142) rfl ?_
                show Steps p.tables e below (T16.setTop (mkF m 144 #[.val (.long q1), .second, .val (.int p2), .val (.int p3), .val (.long q4), .second, .val (.long (4503599627370496 : Int64)), .second, .val (.long v2), .second, .val (.int v4), .val (.long v6), .second, .val (.ref b7), .val (.long v27), .second, .val (.long v30), .second, .val (.long v32), .second, .val (.long v33), .second, .val (.int v35), .unset] [(.long v30)])) _
                refine XS.lload X16.here hx rfl (hb hby at_144) rfl ?_
                show Steps p.tables e below (T16.setTop (mkF m 146 #[.val (.long q1), .second, .val (.int p2), .val (.int p3), .val (.long q4), .second, .val (.long (4503599627370496 : Int64)), .second, .val (.long v2), .second, .val (.int v4), .val (.long v6), .second, .val (.ref b7), .val (.long v27), .second, .val (.long v30), .second, .val (.long v32), .second, .val (.long v33), .second, .val (.int v35), .unset] [(.long v32), (.long v30)])) _
                refine XS.lcmp X16.here hx rfl (hb hby at_146) rfl ?_
                show Steps p.tables e below (T16.setTop (mkF m 147 #[.val (.long q1), .second, .val (.int p2), .val (.int p3), .val (.long q4), .second, .val (.long (4503599627370496 : Int64)), .second, .val (.long v2), .second, .val (.int v4), .val (.long v6), .second, .val (.ref b7), .val (.long v27), .second, .val (.long v30), .second, .val (.long v32), .second, .val (.long v33), .second, .val (.int v35), .unset] [(.int (lcmpW v30 v32))])) _
                refine XS.ifNo X16.here hx rfl (hb hby at_147) rfl (jteq hb1_147).2 ?_
                show Steps p.tables e below (T16.setTop (mkF m 150 #[.val (.long q1), .second, .val (.int p2), .val (.int p3), .val (.long q4), .second, .val (.long (4503599627370496 : Int64)), .second, .val (.long v2), .second, .val (.int v4), .val (.long v6), .second, .val (.ref b7), .val (.long v27), .second, .val (.long v30), .second, .val (.long v32), .second, .val (.long v33), .second, .val (.int v35), .unset] [])) _
                refine XS.iload X16.here hx rfl (hb hby at_150) rfl ?_
                show Steps p.tables e below (T16.setTop (mkF m 152 #[.val (.long q1), .second, .val (.int p2), .val (.int p3), .val (.long q4), .second, .val (.long (4503599627370496 : Int64)), .second, .val (.long v2), .second, .val (.int v4), .val (.long v6), .second, .val (.ref b7), .val (.long v27), .second, .val (.long v30), .second, .val (.long v32), .second, .val (.long v33), .second, .val (.int v35), .unset] [(.int v35)])) _
                refine XS.ifYes X16.here hx rfl (pc0 := 152) (pc' := 161) rfl (hb hby at_152) rfl ((if0 _ _).trans (feq hb2_152).2) (by decide) (by decide) ?_
                show Steps p.tables e below (T16.setTop (mkF m 161 #[.val (.long q1), .second, .val (.int p2), .val (.int p3), .val (.long q4), .second, .val (.long (4503599627370496 : Int64)), .second, .val (.long v2), .second, .val (.int v4), .val (.long v6), .second, .val (.ref b7), .val (.long v27), .second, .val (.long v30), .second, .val (.long v32), .second, .val (.long v33), .second, .val (.int v35), .unset] [])) _
                refine XS.lload X16.here hx rfl (hb hby at_161) rfl ?_
                show Steps p.tables e below (T16.setTop (mkF m 163 #[.val (.long q1), .second, .val (.int p2), .val (.int p3), .val (.long q4), .second, .val (.long (4503599627370496 : Int64)), .second, .val (.long v2), .second, .val (.int v4), .val (.long v6), .second, .val (.ref b7), .val (.long v27), .second, .val (.long v30), .second, .val (.long v32), .second, .val (.long v33), .second, .val (.int v35), .unset] [(.long v30)])) _
                refine XS.lload X16.here hx rfl (hb hby at_163) rfl ?_
                show Steps p.tables e below (T16.setTop (mkF m 165 #[.val (.long q1), .second, .val (.int p2), .val (.int p3), .val (.long q4), .second, .val (.long (4503599627370496 : Int64)), .second, .val (.long v2), .second, .val (.int v4), .val (.long v6), .second, .val (.ref b7), .val (.long v27), .second, .val (.long v30), .second, .val (.long v32), .second, .val (.long v33), .second, .val (.int v35), .unset] [(.long v33), (.long v30)])) _
                refine XS.lneg X16.here hx rfl (hb hby at_165) rfl ?_
                show Steps p.tables e below (T16.setTop (mkF m 166 #[.val (.long q1), .second, .val (.int p2), .val (.int p3), .val (.long q4), .second, .val (.long (4503599627370496 : Int64)), .second, .val (.long v2), .second, .val (.int v4), .val (.long v6), .second, .val (.ref b7), .val (.long v27), .second, .val (.long v30), .second, .val (.long v32), .second, .val (.long v33), .second, .val (.int v35), .unset] [(.long ((-v33))), (.long v30)])) _
                refine XS.lcmp X16.here hx rfl (hb hby at_166) rfl ?_
                show Steps p.tables e below (T16.setTop (mkF m 167 #[.val (.long q1), .second, .val (.int p2), .val (.int p3), .val (.long q4), .second, .val (.long (4503599627370496 : Int64)), .second, .val (.long v2), .second, .val (.int v4), .val (.long v6), .second, .val (.ref b7), .val (.long v27), .second, .val (.long v30), .second, .val (.long v32), .second, .val (.long v33), .second, .val (.int v35), .unset] [(.int (lcmpW v30 ((-v33))))])) _
                refine XS.ifNo X16.here hx rfl (hb hby at_167) rfl (jflt hb3_167).1 ?_
                show Steps p.tables e below (T16.setTop (mkF m 170 #[.val (.long q1), .second, .val (.int p2), .val (.int p3), .val (.long q4), .second, .val (.long (4503599627370496 : Int64)), .second, .val (.long v2), .second, .val (.int v4), .val (.long v6), .second, .val (.ref b7), .val (.long v27), .second, .val (.long v30), .second, .val (.long v32), .second, .val (.long v33), .second, .val (.int v35), .unset] [])) _
                refine XS.lload X16.here hx rfl (hb hby at_170) rfl ?_
                show Steps p.tables e below (T16.setTop (mkF m 172 #[.val (.long q1), .second, .val (.int p2), .val (.int p3), .val (.long q4), .second, .val (.long (4503599627370496 : Int64)), .second, .val (.long v2), .second, .val (.int v4), .val (.long v6), .second, .val (.ref b7), .val (.long v27), .second, .val (.long v30), .second, .val (.long v32), .second, .val (.long v33), .second, .val (.int v35), .unset] [(.long v30)])) _
                refine XS.lload X16.here hx rfl (hb hby at_172) rfl ?_
                show Steps p.tables e below (T16.setTop (mkF m 174 #[.val (.long q1), .second, .val (.int p2), .val (.int p3), .val (.long q4), .second, .val (.long (4503599627370496 : Int64)), .second, .val (.long v2), .second, .val (.int v4), .val (.long v6), .second, .val (.ref b7), .val (.long v27), .second, .val (.long v30), .second, .val (.long v32), .second, .val (.long v33), .second, .val (.int v35), .unset] [(.long v33), (.long v30)])) _
                refine XS.lneg X16.here hx rfl (hb hby at_174) rfl ?_
                show Steps p.tables e below (T16.setTop (mkF m 175 #[.val (.long q1), .second, .val (.int p2), .val (.int p3), .val (.long q4), .second, .val (.long (4503599627370496 : Int64)), .second, .val (.long v2), .second, .val (.int v4), .val (.long v6), .second, .val (.ref b7), .val (.long v27), .second, .val (.long v30), .second, .val (.long v32), .second, .val (.long v33), .second, .val (.int v35), .unset] [(.long ((-v33))), (.long v30)])) _
                refine XS.lcmp X16.here hx rfl (hb hby at_175) rfl ?_
                show Steps p.tables e below (T16.setTop (mkF m 176 #[.val (.long q1), .second, .val (.int p2), .val (.int p3), .val (.long q4), .second, .val (.long (4503599627370496 : Int64)), .second, .val (.long v2), .second, .val (.int v4), .val (.long v6), .second, .val (.ref b7), .val (.long v27), .second, .val (.long v30), .second, .val (.long v32), .second, .val (.long v33), .second, .val (.int v35), .unset] [(.int (lcmpW v30 ((-v33))))])) _
                refine XS.ifNo X16.here hx rfl (hb hby at_176) rfl (jteq hb4_176).2 ?_
                show Steps p.tables e below (T16.setTop (mkF m 179 #[.val (.long q1), .second, .val (.int p2), .val (.int p3), .val (.long q4), .second, .val (.long (4503599627370496 : Int64)), .second, .val (.long v2), .second, .val (.int v4), .val (.long v6), .second, .val (.ref b7), .val (.long v27), .second, .val (.long v30), .second, .val (.long v32), .second, .val (.long v33), .second, .val (.int v35), .unset] [])) _
                refine XS.iload X16.here hx rfl (hb hby at_179) rfl ?_
                show Steps p.tables e below (T16.setTop (mkF m 181 #[.val (.long q1), .second, .val (.int p2), .val (.int p3), .val (.long q4), .second, .val (.long (4503599627370496 : Int64)), .second, .val (.long v2), .second, .val (.int v4), .val (.long v6), .second, .val (.ref b7), .val (.long v27), .second, .val (.long v30), .second, .val (.long v32), .second, .val (.long v33), .second, .val (.int v35), .unset] [(.int v35)])) _
                refine XS.ifNo X16.here hx rfl (hb hby at_181) rfl ((if0 _ _).trans (teq hb5_181).2) ?_
                show Steps p.tables e below (T16.setTop (mkF m 184 #[.val (.long q1), .second, .val (.int p2), .val (.int p3), .val (.long q4), .second, .val (.long (4503599627370496 : Int64)), .second, .val (.long v2), .second, .val (.int v4), .val (.long v6), .second, .val (.ref b7), .val (.long v27), .second, .val (.long v30), .second, .val (.long v32), .second, .val (.long v33), .second, .val (.int v35), .unset] [])) _
                refine XS.iconst X16.here hx rfl (hb hby at_184) ?_
                show Steps p.tables e below (T16.setTop (mkF m 185 #[.val (.long q1), .second, .val (.int p2), .val (.int p3), .val (.long q4), .second, .val (.long (4503599627370496 : Int64)), .second, .val (.long v2), .second, .val (.int v4), .val (.long v6), .second, .val (.ref b7), .val (.long v27), .second, .val (.long v30), .second, .val (.long v32), .second, .val (.long v33), .second, .val (.int v35), .unset] [(.int (-1 : Int32))])) _
                refine XS.istore X16.here hx rfl (hb hby at_185) rfl (l' := #[.val (.long q1), .second, .val (.int p2), .val (.int p3), .val (.long q4), .second, .val (.long (4503599627370496 : Int64)), .second, .val (.long v2), .second, .val (.int v4), .val (.long v6), .second, .val (.ref b7), .val (.long v27), .second, .val (.long v30), .second, .val (.long v32), .second, .val (.long v33), .second, .val (.int v35), .val (.int (-1 : Int32))]) rfl ?_
                show Steps p.tables e below (T16.setTop (mkF m 187 #[.val (.long q1), .second, .val (.int p2), .val (.int p3), .val (.long q4), .second, .val (.long (4503599627370496 : Int64)), .second, .val (.long v2), .second, .val (.int v4), .val (.long v6), .second, .val (.ref b7), .val (.long v27), .second, .val (.long v30), .second, .val (.long v32), .second, .val (.long v33), .second, .val (.int v35), .val (.int (-1 : Int32))] [])) _
                refine XS.goto X16.here hx rfl (pc0 := 187) (pc' := 193) rfl (hb hby at_187) (by decide) (by decide) ?_
                exact kq
              · skip
                refine ⟨(0 : Int32), Or.inr (Or.inr (Or.inr (Or.inr (Or.inl (⟨hb0_139, hb1_147, hb2_152, hb3_167, hb4_176, hb5_181, rfl⟩))))), fun tq kq => pre36 tq ?_⟩
                show Steps p.tables e below (T16.setTop (mkF m 132 #[.val (.long q1), .second, .val (.int p2), .val (.int p3), .val (.long q4), .second, .val (.long (4503599627370496 : Int64)), .second, .val (.long v2), .second, .val (.int v4), .val (.long v6), .second, .val (.ref b7), .val (.long v27), .second, .val (.long v30), .second, .val (.long v32), .second, .val (.long v33), .second, .unset, .unset] [(.int v35)])) _
                refine XS.istore X16.here hx rfl (hb hby at_132) rfl (l' := #[.val (.long q1), .second, .val (.int p2), .val (.int p3), .val (.long q4), .second, .val (.long (4503599627370496 : Int64)), .second, .val (.long v2), .second, .val (.int v4), .val (.long v6), .second, .val (.ref b7), .val (.long v27), .second, .val (.long v30), .second, .val (.long v32), .second, .val (.long v33), .second, .val (.int v35), .unset]) rfl ?_
                show Steps p.tables e below (T16.setTop (mkF m 134 #[.val (.long q1), .second, .val (.int p2), .val (.int p3), .val (.long q4), .second, .val (.long (4503599627370496 : Int64)), .second, .val (.long v2), .second, .val (.int v4), .val (.long v6), .second, .val (.ref b7), .val (.long v27), .second, .val (.long v30), .second, .val (.long v32), .second, .val (.long v33), .second, .val (.int v35), .unset] [])) _
                refine XS.lload X16.here hx rfl (hb hby at_134) rfl ?_
                show Steps p.tables e below (T16.setTop (mkF m 136 #[.val (.long q1), .second, .val (.int p2), .val (.int p3), .val (.long q4), .second, .val (.long (4503599627370496 : Int64)), .second, .val (.long v2), .second, .val (.int v4), .val (.long v6), .second, .val (.ref b7), .val (.long v27), .second, .val (.long v30), .second, .val (.long v32), .second, .val (.long v33), .second, .val (.int v35), .unset] [(.long v30)])) _
                refine XS.lload X16.here hx rfl (hb hby at_136) rfl ?_
                show Steps p.tables e below (T16.setTop (mkF m 138 #[.val (.long q1), .second, .val (.int p2), .val (.int p3), .val (.long q4), .second, .val (.long (4503599627370496 : Int64)), .second, .val (.long v2), .second, .val (.int v4), .val (.long v6), .second, .val (.ref b7), .val (.long v27), .second, .val (.long v30), .second, .val (.long v32), .second, .val (.long v33), .second, .val (.int v35), .unset] [(.long v32), (.long v30)])) _
                refine XS.lcmp X16.here hx rfl (hb hby at_138) rfl ?_
                show Steps p.tables e below (T16.setTop (mkF m 139 #[.val (.long q1), .second, .val (.int p2), .val (.int p3), .val (.long q4), .second, .val (.long (4503599627370496 : Int64)), .second, .val (.long v2), .second, .val (.int v4), .val (.long v6), .second, .val (.ref b7), .val (.long v27), .second, .val (.long v30), .second, .val (.long v32), .second, .val (.long v33), .second, .val (.int v35), .unset] [(.int (lcmpW v30 v32))])) _
                refine XS.ifNo X16.here hx rfl (hb hby at_139) rfl (jflt hb0_139).2.2.1 ?_
                show Steps p.tables e below (T16.setTop (mkF m 142 #[.val (.long q1), .second, .val (.int p2), .val (.int p3), .val (.long q4), .second, .val (.long (4503599627370496 : Int64)), .second, .val (.long v2), .second, .val (.int v4), .val (.long v6), .second, .val (.ref b7), .val (.long v27), .second, .val (.long v30), .second, .val (.long v32), .second, .val (.long v33), .second, .val (.int v35), .unset] [])) _
                refine XS.lload X16.here hx rfl (hb hby at_142) rfl ?_
                show Steps p.tables e below (T16.setTop (mkF m 144 #[.val (.long q1), .second, .val (.int p2), .val (.int p3), .val (.long q4), .second, .val (.long (4503599627370496 : Int64)), .second, .val (.long v2), .second, .val (.int v4), .val (.long v6), .second, .val (.ref b7), .val (.long v27), .second, .val (.long v30), .second, .val (.long v32), .second, .val (.long v33), .second, .val (.int v35), .unset] [(.long v30)])) _
                refine XS.lload X16.here hx rfl (hb hby at_144) rfl ?_
                show Steps p.tables e below (T16.setTop (mkF m 146 #[.val (.long q1), .second, .val (.int p2), .val (.int p3), .val (.long q4), .second, .val (.long (4503599627370496 : Int64)), .second, .val (.long v2), .second, .val (.int v4), .val (.long v6), .second, .val (.ref b7), .val (.long v27), .second, .val (.long v30), .second, .val (.long v32), .second, .val (.long v33), .second, .val (.int v35), .unset] [(.long v32), (.long v30)])) _
                refine XS.lcmp X16.here hx rfl (hb hby at_146) rfl ?_
                show Steps p.tables e below (T16.setTop (mkF m 147 #[.val (.long q1), .second, .val (.int p2), .val (.int p3), .val (.long q4), .second, .val (.long (4503599627370496 : Int64)), .second, .val (.long v2), .second, .val (.int v4), .val (.long v6), .second, .val (.ref b7), .val (.long v27), .second, .val (.long v30), .second, .val (.long v32), .second, .val (.long v33), .second, .val (.int v35), .unset] [(.int (lcmpW v30 v32))])) _
                refine XS.ifNo X16.here hx rfl (hb hby at_147) rfl (jteq hb1_147).2 ?_
                show Steps p.tables e below (T16.setTop (mkF m 150 #[.val (.long q1), .second, .val (.int p2), .val (.int p3), .val (.long q4), .second, .val (.long (4503599627370496 : Int64)), .second, .val (.long v2), .second, .val (.int v4), .val (.long v6), .second, .val (.ref b7), .val (.long v27), .second, .val (.long v30), .second, .val (.long v32), .second, .val (.long v33), .second, .val (.int v35), .unset] [])) _
                refine XS.iload X16.here hx rfl (hb hby at_150) rfl ?_
                show Steps p.tables e below (T16.setTop (mkF m 152 #[.val (.long q1), .second, .val (.int p2), .val (.int p3), .val (.long q4), .second, .val (.long (4503599627370496 : Int64)), .second, .val (.long v2), .second, .val (.int v4), .val (.long v6), .second, .val (.ref b7), .val (.long v27), .second, .val (.long v30), .second, .val (.long v32), .second, .val (.long v33), .second, .val (.int v35), .unset] [(.int v35)])) _
                refine XS.ifYes X16.here hx rfl (pc0 := 152) (pc' := 161) rfl (hb hby at_152) rfl ((if0 _ _).trans (feq hb2_152).2) (by decide) (by decide) ?_
                show Steps p.tables e below (T16.setTop (mkF m 161 #[.val (.long q1), .second, .val (.int p2), .val (.int p3), .val (.long q4), .second, .val (.long (4503599627370496 : Int64)), .second, .val (.long v2), .second, .val (.int v4), .val (.long v6), .second, .val (.ref b7), .val (.long v27), .second, .val (.long v30), .second, .val (.long v32), .second, .val (.long v33), .second, .val (.int v35), .unset] [])) _
                refine XS.lload X16.here hx rfl (hb hby at_161) rfl ?_
                show Steps p.tables e below (T16.setTop (mkF m 163 #[.val (.long q1), .second, .val (.int p2), .val (.int p3), .val (.long q4), .second, .val (.long (4503599627370496 : Int64)), .second, .val (.long v2), .second, .val (.int v4), .val (.long v6), .second, .val (.ref b7), .val (.long v27), .second, .val (.long v30), .second, .val (.long v32), .second, .val (.long v33), .second, .val (.int v35), .unset] [(.long v30)])) _
                refine XS.lload X16.here hx rfl (hb hby at_163) rfl ?_
                show Steps p.tables e below (T16.setTop (mkF m 165 #[.val (.long q1), .second, .val (.int p2), .val (.int p3), .val (.long q4), .second, .val (.long (4503599627370496 : Int64)), .second, .val (.long v2), .second, .val (.int v4), .val (.long v6), .second, .val (.ref b7), .val (.long v27), .second, .val (.long v30), .second, .val (.long v32), .second, .val (.long v33), .second, .val (.int v35), .unset] [(.long v33), (.long v30)])) _
                refine XS.lneg X16.here hx rfl (hb hby at_165) rfl ?_
                show Steps p.tables e below (T16.setTop (mkF m 166 #[.val (.long q1), .second, .val (.int p2), .val (.int p3), .val (.long q4), .second, .val (.long (4503599627370496 : Int64)), .second, .val (.long v2), .second, .val (.int v4), .val (.long v6), .second, .val (.ref b7), .val (.long v27), .second, .val (.long v30), .second, .val (.long v32), .second, .val (.long v33), .second, .val (.int v35), .unset] [(.long ((-v33))), (.long v30)])) _
                refine XS.lcmp X16.here hx rfl (hb hby at_166) rfl ?_
                show Steps p.tables e below (T16.setTop (mkF m 167 #[.val (.long q1), .second, .val (.int p2), .val (.int p3), .val (.long q4), .second, .val (.long (4503599627370496 : Int64)), .second, .val (.long v2), .second, .val (.int v4), .val (.long v6), .second, .val (.ref b7), .val (.long v27), .second, .val (.long v30), .second, .val (.long v32), .second, .val (.long v33), .second, .val (.int v35), .unset] [(.int (lcmpW v30 ((-v33))))])) _
                refine XS.ifNo X16.here hx rfl (hb hby at_167) rfl (jflt hb3_167).1 ?_
                show Steps p.tables e below (T16.setTop (mkF m 170 #[.val (.long q1), .second, .val (.int p2), .val (.int p3), .val (.long q4), .second, .val (.long (4503599627370496 : Int64)), .second, .val (.long v2), .second, .val (.int v4), .val (.long v6), .second, .val (.ref b7), .val (.long v27), .second, .val (.long v30), .second, .val (.long v32), .second, .val (.long v33), .second, .val (.int v35), .unset] [])) _
                refine XS.lload X16.here hx rfl (hb hby at_170) rfl ?_
                show Steps p.tables e below (T16.setTop (mkF m 172 #[.val (.long q1), .second, .val (.int p2), .val (.int p3), .val (.long q4), .second, .val (.long (4503599627370496 : Int64)), .second, .val (.long v2), .second, .val (.int v4), .val (.long v6), .second, .val (.ref b7), .val (.long v27), .second, .val (.long v30), .second, .val (.long v32), .second, .val (.long v33), .second, .val (.int v35), .unset] [(.long v30)])) _
                refine XS.lload X16.here hx rfl (hb hby at_172) rfl ?_
                show Steps p.tables e below (T16.setTop (mkF m 174 #[.val (.long q1), .second, .val (.int p2), .val (.int p3), .val (.long q4), .second, .val (.long (4503599627370496 : Int64)), .second, .val (.long v2), .second, .val (.int v4), .val (.long v6), .second, .val (.ref b7), .val (.long v27), .second, .val (.long v30), .second, .val (.long v32), .second, .val (.long v33), .second, .val (.int v35), .unset] [(.long v33), (.long v30)])) _
                refine XS.lneg X16.here hx rfl (hb hby at_174) rfl ?_
                show Steps p.tables e below (T16.setTop (mkF m 175 #[.val (.long q1), .second, .val (.int p2), .val (.int p3), .val (.long q4), .second, .val (.long (4503599627370496 : Int64)), .second, .val (.long v2), .second, .val (.int v4), .val (.long v6), .second, .val (.ref b7), .val (.long v27), .second, .val (.long v30), .second, .val (.long v32), .second, .val (.long v33), .second, .val (.int v35), .unset] [(.long ((-v33))), (.long v30)])) _
                refine XS.lcmp X16.here hx rfl (hb hby at_175) rfl ?_
                show Steps p.tables e below (T16.setTop (mkF m 176 #[.val (.long q1), .second, .val (.int p2), .val (.int p3), .val (.long q4), .second, .val (.long (4503599627370496 : Int64)), .second, .val (.long v2), .second, .val (.int v4), .val (.long v6), .second, .val (.ref b7), .val (.long v27), .second, .val (.long v30), .second, .val (.long v32), .second, .val (.long v33), .second, .val (.int v35), .unset] [(.int (lcmpW v30 ((-v33))))])) _
                refine XS.ifNo X16.here hx rfl (hb hby at_176) rfl (jteq hb4_176).2 ?_
                show Steps p.tables e below (T16.setTop (mkF m 179 #[.val (.long q1), .second, .val (.int p2), .val (.int p3), .val (.long q4), .second, .val (.long (4503599627370496 : Int64)), .second, .val (.long v2), .second, .val (.int v4), .val (.long v6), .second, .val (.ref b7), .val (.long v27), .second, .val (.long v30), .second, .val (.long v32), .second, .val (.long v33), .second, .val (.int v35), .unset] [])) _
                refine XS.iload X16.here hx rfl (hb hby at_179) rfl ?_
                show Steps p.tables e below (T16.setTop (mkF m 181 #[.val (.long q1), .second, .val (.int p2), .val (.int p3), .val (.long q4), .second, .val (.long (4503599627370496 : Int64)), .second, .val (.long v2), .second, .val (.int v4), .val (.long v6), .second, .val (.ref b7), .val (.long v27), .second, .val (.long v30), .second, .val (.long v32), .second, .val (.long v33), .second, .val (.int v35), .unset] [(.int v35)])) _
                refine XS.ifYes X16.here hx rfl (pc0 := 181) (pc' := 190) rfl (hb hby at_181) rfl ((if0 _ _).trans (feq hb5_181).2) (by decide) (by decide) ?_
                show Steps p.tables e below (T16.setTop (mkF m 190 #[.val (.long q1), .second, .val (.int p2), .val (.int p3), .val (.long q4), .second, .val (.long (4503599627370496 : Int64)), .second, .val (.long v2), .second, .val (.int v4), .val (.long v6), .second, .val (.ref b7), .val (.long v27), .second, .val (.long v30), .second, .val (.long v32), .second, .val (.long v33), .second, .val (.int v35), .unset] [])) _
                refine XS.iconst X16.here hx rfl (hb hby at_190) ?_
                show Steps p.tables e below (T16.setTop (mkF m 191 #[.val (.long q1), .second, .val (.int p2), .val (.int p3), .val (.long q4), .second, .val (.long (4503599627370496 : Int64)), .second, .val (.long v2), .second, .val (.int v4), .val (.long v6), .second, .val (.ref b7), .val (.long v27), .second, .val (.long v30), .second, .val (.long v32), .second, .val (.long v33), .second, .val (.int v35), .unset] [(.int (0 : Int32))])) _
                refine XS.istore X16.here hx rfl (hb hby at_191) rfl (l' := #[.val (.long q1), .second, .val (.int p2), .val (.int p3), .val (.long q4), .second, .val (.long (4503599627370496 : Int64)), .second, .val (.long v2), .second, .val (.int v4), .val (.long v6), .second, .val (.ref b7), .val (.long v27), .second, .val (.long v30), .second, .val (.long v32), .second, .val (.long v33), .second, .val (.int v35), .val (.int (0 : Int32))]) rfl ?_
                exact kq
            · skip
              refine ⟨(0 : Int32), Or.inr (Or.inr (Or.inr (Or.inr (Or.inr (Or.inl (⟨hb0_139, hb1_147, hb2_152, hb3_167, hb4_176, rfl⟩)))))), fun tq kq => pre36 tq ?_⟩
              show Steps p.tables e below (T16.setTop (mkF m 132 #[.val (.long q1), .second, .val (.int p2), .val (.int p3), .val (.long q4), .second, .val (.long (4503599627370496 : Int64)), .second, .val (.long v2), .second, .val (.int v4), .val (.long v6), .second, .val (.ref b7), .val (.long v27), .second, .val (.long v30), .second, .val (.long v32), .second, .val (.long v33), .second, .unset, .unset] [(.int v35)])) _
              refine XS.istore X16.here hx rfl (hb hby at_132) rfl (l' := #[.val (.long q1), .second, .val (.int p2), .val (.int p3), .val (.long q4), .second, .val (.long (4503599627370496 : Int64)), .second, .val (.long v2), .second, .val (.int v4), .val (.long v6), .second, .val (.ref b7), .val (.long v27), .second, .val (.long v30), .second, .val (.long v32), .second, .val (.long v33), .second, .val (.int v35), .unset]) rfl ?_
              show Steps p.tables e below (T16.setTop (mkF m 134 #[.val (.long q1), .second, .val (.int p2), .val (.int p3), .val (.long q4), .second, .val (.long (4503599627370496 : Int64)), .second, .val (.long v2), .second, .val (.int v4), .val (.long v6), .second, .val (.ref b7), .val (.long v27), .second, .val (.long v30), .second, .val (.long v32), .second, .val (.long v33), .second, .val (.int v35), .unset] [])) _
              refine XS.lload X16.here hx rfl (hb hby at_134) rfl ?_
              show Steps p.tables e below (T16.setTop (mkF m 136 #[.val (.long q1), .second, .val (.int p2), .val (.int p3), .val (.long q4), .second, .val (.long (4503599627370496 : Int64)), .second, .val (.long v2), .second, .val (.int v4), .val (.long v6), .second, .val (.ref b7), .val (.long v27), .second, .val (.long v30), .second, .val (.long v32), .second, .val (.long v33), .second, .val (.int v35), .unset] [(.long v30)])) _
              refine XS.lload X16.here hx rfl (hb hby at_136) rfl ?_
              show Steps p.tables e below (T16.setTop (mkF m 138 #[.val (.long q1), .second, .val (.int p2), .val (.int p3), .val (.long q4), .second, .val (.long (4503599627370496 : Int64)), .second, .val (.long v2), .second, .val (.int v4), .val (.long v6), .second, .val (.ref b7), .val (.long v27), .second, .val (.long v30), .second, .val (.long v32), .second, .val (.long v33), .second, .val (.int v35), .unset] [(.long v32), (.long v30)])) _
              refine XS.lcmp X16.here hx rfl (hb hby at_138) rfl ?_
              show Steps p.tables e below (T16.setTop (mkF m 139 #[.val (.long q1), .second, .val (.int p2), .val (.int p3), .val (.long q4), .second, .val (.long (4503599627370496 : Int64)), .second, .val (.long v2), .second, .val (.int v4), .val (.long v6), .second, .val (.ref b7), .val (.long v27), .second, .val (.long v30), .second, .val (.long v32), .second, .val (.long v33), .second, .val (.int v35), .unset] [(.int (lcmpW v30 v32))])) _
              refine XS.ifNo X16.here hx rfl (hb hby at_139) rfl (jflt hb0_139).2.2.1 ?_
              show Steps p.tables e below (T16.setTop (mkF m 142 #[.val (.long q1), .second, .val (.int p2), .val (.int p3), .val (.long q4), .second, .val (.long (4503599627370496 : Int64)), .second, .val (.long v2), .second, .val (.int v4), .val (.long v6), .second, .val (.ref b7), .val (.long v27), .second, .val (.long v30), .second, .val (.long v32), .second, .val (.long v33), .second, .val (.int v35), .unset] [])) _
              refine XS.lload X16.here hx rfl (hb hby at_142) rfl ?_
              show Steps p.tables e below (T16.setTop (mkF m 144 #[.val (.long q1), .second, .val (.int p2), .val (.int p3), .val (.long q4), .second, .val (.long (4503599627370496 : Int64)), .second, .val (.long v2), .second, .val (.int v4), .val (.long v6), .second, .val (.ref b7), .val (.long v27), .second, .val (.long v30), .second, .val (.long v32), .second, .val (.long v33), .second, .val (.int v35), .unset] [(.long v30)])) _
              refine XS.lload X16.here hx rfl (hb hby at_144) rfl ?_
              show Steps p.tables e below (T16.setTop (mkF m 146 #[.val (.long q1), .second, .val (.int p2), .val (.int p3), .val (.long q4), .second, .val (.long (4503599627370496 : Int64)), .second, .val (.long v2), .second, .val (.int v4), .val (.long v6), .second, .val (.ref b7), .val (.long v27), .second, .val (.long v30), .second, .val (.long v32), .second, .val (.long v33), .second, .val (.int v35), .unset] [(.long v32), (.long v30)])) _
              refine XS.lcmp X16.here hx rfl (hb hby at_146) rfl ?_
              show Steps p.tables e below (T16.setTop (mkF m 147 #[.val (.long q1), .second, .val (.int p2), .val (.int p3), .val (.long q4), .second, .val (.long (4503599627370496 : Int64)), .second, .val (.long v2), .second, .val (.int v4), .val (.long v6), .second, .val (.ref b7), .val (.long v27), .second, .val (.long v30), .second, .val (.long v32), .second, .val (.long v33), .second, .val (.int v35), .unset] [(.int (lcmpW v30 v32))])) _
              refine XS.ifNo X16.here hx rfl (hb hby at_147) rfl (jteq hb1_147).2 ?_
              show Steps p.tables e below (T16.setTop (mkF m 150 #[.val (.long q1), .second, .val (.int p2), .val (.int p3), .val (.long q4), .second, .val (.long (4503599627370496 : Int64)), .second, .val (.long v2), .second, .val (.int v4), .val (.long v6), .second, .val (.ref b7), .val (.long v27), .second, .val (.long v30), .second, .val (.long v32), .second, .val (.long v33), .second, .val (.int v35), .unset] [])) _
              refine XS.iload X16.here hx rfl (hb hby at_150) rfl ?_
              show Steps p.tables e below (T16.setTop (mkF m 152 #[.val (.long q1), .second, .val (.int p2), .val (.int p3), .val (.long q4), .second, .val (.long (4503599627370496 : Int64)), .second, .val (.long v2), .second, .val (.int v4), .val (.long v6), .second, .val (.ref b7), .val (.long v27), .second, .val (.long v30), .second, .val (.long v32), .second, .val (.long v33), .second, .val (.int v35), .unset] [(.int v35)])) _
              refine XS.ifYes X16.here hx rfl (pc0 := 152) (pc' := 161) rfl (hb hby at_152) rfl ((if0 _ _).trans (feq hb2_152).2) (by decide) (by decide) ?_
              show Steps p.tables e below (T16.setTop (mkF m 161 #[.val (.long q1), .second, .val (.int p2), .val (.int p3), .val (.long q4), .second, .val (.long (4503599627370496 : Int64)), .second, .val (.long v2), .second, .val (.int v4), .val (.long v6), .second, .val (.ref b7), .val (.long v27), .second, .val (.long v30), .second, .val (.long v32), .second, .val (.long v33), .second, .val (.int v35), .unset] [])) _
              refine XS.lload X16.here hx rfl (hb hby at_161) rfl ?_
              show Steps p.tables e below (T16.setTop (mkF m 163 #[.val (.long q1), .second, .val (.int p2), .val (.int p3), .val (.long q4), .second, .val (.long (4503599627370496 : Int64)), .second, .val (.long v2), .second, .val (.int v4), .val (.long v6), .second, .val (.ref b7), .val (.long v27), .second, .val (.long v30), .second, .val (.long v32), .second, .val (.long v33), .second, .val (.int v35), .unset] [(.long v30)])) _
              refine XS.lload X16.here hx rfl (hb hby at_163) rfl ?_
              show Steps p.tables e below (T16.setTop (mkF m 165 #[.val (.long q1), .second, .val (.int p2), .val (.int p3), .val (.long q4), .second, .val (.long (4503599627370496 : Int64)), .second, .val (.long v2), .second, .val (.int v4), .val (.long v6), .second, .val (.ref b7), .val (.long v27), .second, .val (.long v30), .second, .val (.long v32), .second, .val (.long v33), .second, .val (.int v35), .unset] [(.long v33), (.long v30)])) _
              refine XS.lneg X16.here hx rfl (hb hby at_165) rfl ?_
              show Steps p.tables e below (T16.setTop (mkF m 166 #[.val (.long q1), .second, .val (.int p2), .val (.int p3), .val (.long q4), .second, .val (.long (4503599627370496 : Int64)), .second, .val (.long v2), .second, .val (.int v4), .val (.long v6), .second, .val (.ref b7), .val (.long v27), .second, .val (.long v30), .second, .val (.long v32), .second, .val (.long v33), .second, .val (.int v35), .unset] [(.long ((-v33))), (.long v30)])) _
              refine XS.lcmp X16.here hx rfl (hb hby at_166) rfl ?_
              show Steps p.tables e below (T16.setTop (mkF m 167 #[.val (.long q1), .second, .val (.int p2), .val (.int p3), .val (.long q4), .second, .val (.long (4503599627370496 : Int64)), .second, .val (.long v2), .second, .val (.int v4), .val (.long v6), .second, .val (.ref b7), .val (.long v27), .second, .val (.long v30), .second, .val (.long v32), .second, .val (.long v33), .second, .val (.int v35), .unset] [(.int (lcmpW v30 ((-v33))))])) _
              refine XS.ifNo X16.here hx rfl (hb hby at_167) rfl (jflt hb3_167).1 ?_
              show Steps p.tables e below (T16.setTop (mkF m 170 #[.val (.long q1), .second, .val (.int p2), .val (.int p3), .val (.long q4), .second, .val (.long (4503599627370496 : Int64)), .second, .val (.long v2), .second, .val (.int v4), .val (.long v6), .second, .val (.ref b7), .val (.long v27), .second, .val (.long v30), .second, .val (.long v32), .second, .val (.long v33), .second, .val (.int v35), .unset] [])) _
              refine XS.lload X16.here hx rfl (hb hby at_170) rfl ?_
              show Steps p.tables e below (T16.setTop (mkF m 172 #[.val (.long q1), .second, .val (.int p2), .val (.int p3), .val (.long q4), .second, .val (.long (4503599627370496 : Int64)), .second, .val (.long v2), .second, .val (.int v4), .val (.long v6), .second, .val (.ref b7), .val (.long v27), .second, .val (.long v30), .second, .val (.long v32), .second, .val (.long v33), .second, .val (.int v35), .unset] [(.long v30)])) _
              refine XS.lload X16.here hx rfl (hb hby at_172) rfl ?_
              show Steps p.tables e below (T16.setTop (mkF m 174 #[.val (.long q1), .second, .val (.int p2), .val (.int p3), .val (.long q4), .second, .val (.long (4503599627370496 : Int64)), .second, .val (.long v2), .second, .val (.int v4), .val (.long v6), .second, .val (.ref b7), .val (.long v27), .second, .val (.long v30), .second, .val (.long v32), .second, .val (.long v33), .second, .val (.int v35), .unset] [(.long v33), (.long v30)])) _
              refine XS.lneg X16.here hx rfl (hb hby at_174) rfl ?_
              show Steps p.tables e below (T16.setTop (mkF m 175 #[.val (.long q1), .second, .val (.int p2), .val (.int p3), .val (.long q4), .second, .val (.long (4503599627370496 : Int64)), .second, .val (.long v2), .second, .val (.int v4), .val (.long v6), .second, .val (.ref b7), .val (.long v27), .second, .val (.long v30), .second, .val (.long v32), .second, .val (.long v33), .second, .val (.int v35), .unset] [(.long ((-v33))), (.long v30)])) _
              refine XS.lcmp X16.here hx rfl (hb hby at_175) rfl ?_
              show Steps p.tables e below (T16.setTop (mkF m 176 #[.val (.long q1), .second, .val (.int p2), .val (.int p3), .val (.long q4), .second, .val (.long (4503599627370496 : Int64)), .second, .val (.long v2), .second, .val (.int v4), .val (.long v6), .second, .val (.ref b7), .val (.long v27), .second, .val (.long v30), .second, .val (.long v32), .second, .val (.long v33), .second, .val (.int v35), .unset] [(.int (lcmpW v30 ((-v33))))])) _
              refine XS.ifYes X16.here hx rfl (pc0 := 176) (pc' := 190) rfl (hb hby at_176) rfl (jfeq hb4_176).2 (by decide) (by decide) ?_
              show Steps p.tables e below (T16.setTop (mkF m 190 #[.val (.long q1), .second, .val (.int p2), .val (.int p3), .val (.long q4), .second, .val (.long (4503599627370496 : Int64)), .second, .val (.long v2), .second, .val (.int v4), .val (.long v6), .second, .val (.ref b7), .val (.long v27), .second, .val (.long v30), .second, .val (.long v32), .second, .val (.long v33), .second, .val (.int v35), .unset] [])) _
              refine XS.iconst X16.here hx rfl (hb hby at_190) ?_
              show Steps p.tables e below (T16.setTop (mkF m 191 #[.val (.long q1), .second, .val (.int p2), .val (.int p3), .val (.long q4), .second, .val (.long (4503599627370496 : Int64)), .second, .val (.long v2), .second, .val (.int v4), .val (.long v6), .second, .val (.ref b7), .val (.long v27), .second, .val (.long v30), .second, .val (.long v32), .second, .val (.long v33), .second, .val (.int v35), .unset] [(.int (0 : Int32))])) _
              refine XS.istore X16.here hx rfl (hb hby at_191) rfl (l' := #[.val (.long q1), .second, .val (.int p2), .val (.int p3), .val (.long q4), .second, .val (.long (4503599627370496 : Int64)), .second, .val (.long v2), .second, .val (.int v4), .val (.long v6), .second, .val (.ref b7), .val (.long v27), .second, .val (.long v30), .second, .val (.long v32), .second, .val (.long v33), .second, .val (.int v35), .val (.int (0 : Int32))]) rfl ?_
              exact kq
      · skip
        by_cases hb2_167 : v30 < ((-v33))
        · skip
          refine ⟨(-1 : Int32), Or.inr (Or.inr (Or.inr (Or.inr (Or.inr (Or.inr (Or.inl (⟨hb0_139, hb1_147, hb2_167, rfl⟩))))))), fun tq kq => pre36 tq ?_⟩
          show Steps p.tables e below (T16.setTop (mkF m 132 #[.val (.long q1), .second, .val (.int p2), .val (.int p3), .val (.long q4), .second, .val (.long (4503599627370496 : Int64)), .second, .val (.long v2), .second, .val (.int v4), .val (.long v6), .second, .val (.ref b7), .val (.long v27), .second, .val (.long v30), .second, .val (.long v32), .second, .val (.long v33), .second, .unset, .unset] [(.int v35)])) _
          refine XS.istore X16.here hx rfl (hb hby at_132) rfl (l' := #[.val (.long q1), .second, .val (.int p2), .val (.int p3), .val (.long q4), .second, .val (.long (4503599627370496 : Int64)), .second, .val (.long v2), .second, .val (.int v4), .val (.long v6), .second, .val (.ref b7), .val (.long v27), .second, .val (.long v30), .second, .val (.long v32), .second, .val (.long v33), .second, .val (.int v35), .unset]) rfl ?_
          show Steps p.tables e below (T16.setTop (mkF m 134 #[.val (.long q1), .second, .val (.int p2), .val (.int p3), .val (.long q4), .second, .val (.long (4503599627370496 : Int64)), .second, .val (.long v2), .second, .val (.int v4), .val (.long v6), .second, .val (.ref b7), .val (.long v27), .second, .val (.long v30), .second, .val (.long v32), .second, .val (.long v33), .second, .val (.int v35), .unset] [])) _
          refine XS.lload X16.here hx rfl (hb hby at_134) rfl ?_
          show Steps p.tables e below (T16.setTop (mkF m 136 #[.val (.long q1), .second, .val (.int p2), .val (.int p3), .val (.long q4), .second, .val (.long (4503599627370496 : Int64)), .second, .val (.long v2), .second, .val (.int v4), .val (.long v6), .second, .val (.ref b7), .val (.long v27), .second, .val (.long v30), .second, .val (.long v32), .second, .val (.long v33), .second, .val (.int v35), .unset] [(.long v30)])) _
          refine XS.lload X16.here hx rfl (hb hby at_136) rfl ?_
          show Steps p.tables e below (T16.setTop (mkF m 138 #[.val (.long q1), .second, .val (.int p2), .val (.int p3), .val (.long q4), .second, .val (.long (4503599627370496 : Int64)), .second, .val (.long v2), .second, .val (.int v4), .val (.long v6), .second, .val (.ref b7), .val (.long v27), .second, .val (.long v30), .second, .val (.long v32), .second, .val (.long v33), .second, .val (.int v35), .unset] [(.long v32), (.long v30)])) _
          refine XS.lcmp X16.here hx rfl (hb hby at_138) rfl ?_
          show Steps p.tables e below (T16.setTop (mkF m 139 #[.val (.long q1), .second, .val (.int p2), .val (.int p3), .val (.long q4), .second, .val (.long (4503599627370496 : Int64)), .second, .val (.long v2), .second, .val (.int v4), .val (.long v6), .second, .val (.ref b7), .val (.long v27), .second, .val (.long v30), .second, .val (.long v32), .second, .val (.long v33), .second, .val (.int v35), .unset] [(.int (lcmpW v30 v32))])) _
          refine XS.ifNo X16.here hx rfl (hb hby at_139) rfl (jflt hb0_139).2.2.1 ?_
          show Steps p.tables e below (T16.setTop (mkF m 142 #[.val (.long q1), .second, .val (.int p2), .val (.int p3), .val (.long q4), .second, .val (.long (4503599627370496 : Int64)), .second, .val (.long v2), .second, .val (.int v4), .val (.long v6), .second, .val (.ref b7), .val (.long v27), .second, .val (.long v30), .second, .val (.long v32), .second, .val (.long v33), .second, .val (.int v35), .unset] [])) _
          refine XS.lload X16.here hx rfl (hb hby at_142) rfl ?_
          show Steps p.tables e below (T16.setTop (mkF m 144 #[.val (.long q1), .second, .val (.int p2), .val (.int p3), .val (.long q4), .second, .val (.long (4503599627370496 : Int64)), .second, .val (.long v2), .second, .val (.int v4), .val (.long v6), .second, .val (.ref b7), .val (.long v27), .second, .val (.long v30), .second, .val (.long v32), .second, .val (.long v33), .second, .val (.int v35), .unset] [(.long v30)])) _
          refine XS.lload X16.here hx rfl (hb hby at_144) rfl ?_
          show Steps p.tables e below (T16.setTop (mkF m 146 #[.val (.long q1), .second, .val (.int p2), .val (.int p3), .val (.long q4), .second, .val (.long (4503599627370496 : Int64)), .second, .val (.long v2), .second, .val (.int v4), .val (.long v6), .second, .val (.ref b7), .val (.long v27), .second, .val (.long v30), .second, .val (.long v32), .second, .val (.long v33), .second, .val (.int v35), .unset] [(.long v32), (.long v30)])) _
          refine XS.lcmp X16.here hx rfl (hb hby at_146) rfl ?_
          show Steps p.tables e below (T16.setTop (mkF m 147 #[.val (.long q1), .second, .val (.int p2), .val (.int p3), .val (.long q4), .second, .val (.long (4503599627370496 : Int64)), .second, .val (.long v2), .second, .val (.int v4), .val (.long v6), .second, .val (.ref b7), .val (.long v27), .second, .val (.long v30), .second, .val (.long v32), .second, .val (.long v33), .second, .val (.int v35), .unset] [(.int (lcmpW v30 v32))])) _
          refine XS.ifYes X16.here hx rfl (pc0 := 147) (pc' := 161) rfl (hb hby at_147) rfl (jfeq hb1_147).2 (by decide) (by decide) ?_
          show Steps p.tables e below (T16.setTop (mkF m 161 #[.val (.long q1), .second, .val (.int p2), .val (.int p3), .val (.long q4), .second, .val (.long (4503599627370496 : Int64)), .second, .val (.long v2), .second, .val (.int v4), .val (.long v6), .second, .val (.ref b7), .val (.long v27), .second, .val (.long v30), .second, .val (.long v32), .second, .val (.long v33), .second, .val (.int v35), .unset] [])) _
          refine XS.lload X16.here hx rfl (hb hby at_161) rfl ?_
          show Steps p.tables e below (T16.setTop (mkF m 163 #[.val (.long q1), .second, .val (.int p2), .val (.int p3), .val (.long q4), .second, .val (.long (4503599627370496 : Int64)), .second, .val (.long v2), .second, .val (.int v4), .val (.long v6), .second, .val (.ref b7), .val (.long v27), .second, .val (.long v30), .second, .val (.long v32), .second, .val (.long v33), .second, .val (.int v35), .unset] [(.long v30)])) _
          refine XS.lload X16.here hx rfl (hb hby at_163) rfl ?_
          show Steps p.tables e below (T16.setTop (mkF m 165 #[.val (.long q1), .second, .val (.int p2), .val (.int p3), .val (.long q4), .second, .val (.long (4503599627370496 : Int64)), .second, .val (.long v2), .second, .val (.int v4), .val (.long v6), .second, .val (.ref b7), .val (.long v27), .second, .val (.long v30), .second, .val (.long v32), .second, .val (.long v33), .second, .val (.int v35), .unset] [(.long v33), (.long v30)])) _
          refine XS.lneg X16.here hx rfl (hb hby at_165) rfl ?_
          show Steps p.tables e below (T16.setTop (mkF m 166 #[.val (.long q1), .second, .val (.int p2), .val (.int p3), .val (.long q4), .second, .val (.long (4503599627370496 : Int64)), .second, .val (.long v2), .second, .val (.int v4), .val (.long v6), .second, .val (.ref b7), .val (.long v27), .second, .val (.long v30), .second, .val (.long v32), .second, .val (.long v33), .second, .val (.int v35), .unset] [(.long ((-v33))), (.long v30)])) _
          refine XS.lcmp X16.here hx rfl (hb hby at_166) rfl ?_
          show Steps p.tables e below (T16.setTop (mkF m 167 #[.val (.long q1), .second, .val (.int p2), .val (.int p3), .val (.long q4), .second, .val (.long (4503599627370496 : Int64)), .second, .val (.long v2), .second, .val (.int v4), .val (.long v6), .second, .val (.ref b7), .val (.long v27), .second, .val (.long v30), .second, .val (.long v32), .second, .val (.long v33), .second, .val (.int v35), .unset] [(.int (lcmpW v30 ((-v33))))])) _
          refine XS.ifYes X16.here hx rfl (pc0 := 167) (pc' := 184) rfl (hb hby at_167) rfl (jtlt hb2_167).1 (by decide) (by decide) ?_
          show Steps p.tables e below (T16.setTop (mkF m 184 #[.val (.long q1), .second, .val (.int p2), .val (.int p3), .val (.long q4), .second, .val (.long (4503599627370496 : Int64)), .second, .val (.long v2), .second, .val (.int v4), .val (.long v6), .second, .val (.ref b7), .val (.long v27), .second, .val (.long v30), .second, .val (.long v32), .second, .val (.long v33), .second, .val (.int v35), .unset] [])) _
          refine XS.iconst X16.here hx rfl (hb hby at_184) ?_
          show Steps p.tables e below (T16.setTop (mkF m 185 #[.val (.long q1), .second, .val (.int p2), .val (.int p3), .val (.long q4), .second, .val (.long (4503599627370496 : Int64)), .second, .val (.long v2), .second, .val (.int v4), .val (.long v6), .second, .val (.ref b7), .val (.long v27), .second, .val (.long v30), .second, .val (.long v32), .second, .val (.long v33), .second, .val (.int v35), .unset] [(.int (-1 : Int32))])) _
          refine XS.istore X16.here hx rfl (hb hby at_185) rfl (l' := #[.val (.long q1), .second, .val (.int p2), .val (.int p3), .val (.long q4), .second, .val (.long (4503599627370496 : Int64)), .second, .val (.long v2), .second, .val (.int v4), .val (.long v6), .second, .val (.ref b7), .val (.long v27), .second, .val (.long v30), .second, .val (.long v32), .second, .val (.long v33), .second, .val (.int v35), .val (.int (-1 : Int32))]) rfl ?_
          show Steps p.tables e below (T16.setTop (mkF m 187 #[.val (.long q1), .second, .val (.int p2), .val (.int p3), .val (.long q4), .second, .val (.long (4503599627370496 : Int64)), .second, .val (.long v2), .second, .val (.int v4), .val (.long v6), .second, .val (.ref b7), .val (.long v27), .second, .val (.long v30), .second, .val (.long v32), .second, .val (.long v33), .second, .val (.int v35), .val (.int (-1 : Int32))] [])) _
          refine XS.goto X16.here hx rfl (pc0 := 187) (pc' := 193) rfl (hb hby at_187) (by decide) (by decide) ?_
          exact kq
        · skip
          by_cases hb3_176 : v30 = ((-v33))
          · skip
            by_cases hb4_181 : v35 = (0 : Int32)
            · skip
              refine ⟨(-1 : Int32), Or.inr (Or.inr (Or.inr (Or.inr (Or.inr (Or.inr (Or.inr (Or.inl (⟨hb0_139, hb1_147, hb2_167, hb3_176, hb4_181, rfl⟩)))))))), fun tq kq => pre36 tq ?_⟩
              show Steps p.tables e below (T16.setTop (mkF m 132 #[.val (.long q1), .second, .val (.int p2), .val (.int p3), .val (.long q4), .second, .val (.long (4503599627370496 : Int64)), .second, .val (.long v2), .second, .val (.int v4), .val (.long v6), .second, .val (.ref b7), .val (.long v27), .second, .val (.long v30), .second, .val (.long v32), .second, .val (.long v33), .second, .unset, .unset] [(.int v35)])) _
              refine XS.istore X16.here hx rfl (hb hby at_132) rfl (l' := #[.val (.long q1), .second, .val (.int p2), .val (.int p3), .val (.long q4), .second, .val (.long (4503599627370496 : Int64)), .second, .val (.long v2), .second, .val (.int v4), .val (.long v6), .second, .val (.ref b7), .val (.long v27), .second, .val (.long v30), .second, .val (.long v32), .second, .val (.long v33), .second, .val (.int v35), .unset]) rfl ?_
              show Steps p.tables e below (T16.setTop (mkF m 134 #[.val (.long q1), .second, .val (.int p2), .val (.int p3), .val (.long q4), .second, .val (.long (4503599627370496 : Int64)), .second, .val (.long v2), .second, .val (.int v4), .val (.long v6), .second, .val (.ref b7), .val (.long v27), .second, .val (.long v30), .second, .val (.long v32), .second, .val (.long v33), .second, .val (.int v35), .unset] [])) _
              refine XS.lload X16.here hx rfl (hb hby at_134) rfl ?_
              show Steps p.tables e below (T16.setTop (mkF m 136 #[.val (.long q1), .second, .val (.int p2), .val (.int p3), .val (.long q4), .second, .val (.long (4503599627370496 : Int64)), .second, .val (.long v2), .second, .val (.int v4), .val (.long v6), .second, .val (.ref b7), .val (.long v27), .second, .val (.long v30), .second, .val (.long v32), .second, .val (.long v33), .second, .val (.int v35), .unset] [(.long v30)])) _
              refine XS.lload X16.here hx rfl (hb hby at_136) rfl ?_
              show Steps p.tables e below (T16.setTop (mkF m 138 #[.val (.long q1), .second, .val (.int p2), .val (.int p3), .val (.long q4), .second, .val (.long (4503599627370496 : Int64)), .second, .val (.long v2), .second, .val (.int v4), .val (.long v6), .second, .val (.ref b7), .val (.long v27), .second, .val (.long v30), .second, .val (.long v32), .second, .val (.long v33), .second, .val (.int v35), .unset] [(.long v32), (.long v30)])) _
              refine XS.lcmp X16.here hx rfl (hb hby at_138) rfl ?_
              show Steps p.tables e below (T16.setTop (mkF m 139 #[.val (.long q1), .second, .val (.int p2), .val (.int p3), .val (.long q4), .second, .val (.long (4503599627370496 : Int64)), .second, .val (.long v2), .second, .val (.int v4), .val (.long v6), .second, .val (.ref b7), .val (.long v27), .second, .val (.long v30), .second, .val (.long v32), .second, .val (.long v33), .second, .val (.int v35), .unset] [(.int (lcmpW v30 v32))])) _
              refine XS.ifNo X16.here hx rfl (hb hby at_139) rfl (jflt hb0_139).2.2.1 ?_
              show Steps p.tables e below (T16.setTop (mkF m 142 #[.val (.long q1), .second, .val (.int p2), .val (.int p3), .val (.long q4), .second, .val (.long (4503599627370496 : Int64)), .second, .val (.long v2), .second, .val (.int v4), .val (.long v6), .second, .val (.ref b7), .val (.long v27), .second, .val (.long v30), .second, .val (.long v32), .second, .val (.long v33), .second, .val (.int v35), .unset] [])) _
              refine XS.lload X16.here hx rfl (hb hby at_142) rfl ?_
              show Steps p.tables e below (T16.setTop (mkF m 144 #[.val (.long q1), .second, .val (.int p2), .val (.int p3), .val (.long q4), .second, .val (.long (4503599627370496 : Int64)), .second, .val (.long v2), .second, .val (.int v4), .val (.long v6), .second, .val (.ref b7), .val (.long v27), .second, .val (.long v30), .second, .val (.long v32), .second, .val (.long v33), .second, .val (.int v35), .unset] [(.long v30)])) _
              refine XS.lload X16.here hx rfl (hb hby at_144) rfl ?_
              show Steps p.tables e below (T16.setTop (mkF m 146 #[.val (.long q1), .second, .val (.int p2), .val (.int p3), .val (.long q4), .second, .val (.long (4503599627370496 : Int64)), .second, .val (.long v2), .second, .val (.int v4), .val (.long v6), .second, .val (.ref b7), .val (.long v27), .second, .val (.long v30), .second, .val (.long v32), .second, .val (.long v33), .second, .val (.int v35), .unset] [(.long v32), (.long v30)])) _
              refine XS.lcmp X16.here hx rfl (hb hby at_146) rfl ?_
              show Steps p.tables e below (T16.setTop (mkF m 147 #[.val (.long q1), .second, .val (.int p2), .val (.int p3), .val (.long q4), .second, .val (.long (4503599627370496 : Int64)), .second, .val (.long v2), .second, .val (.int v4), .val (.long v6), .second, .val (.ref b7), .val (.long v27), .second, .val (.long v30), .second, .val (.long v32), .second, .val (.long v33), .second, .val (.int v35), .unset] [(.int (lcmpW v30 v32))])) _
              refine XS.ifYes X16.here hx rfl (pc0 := 147) (pc' := 161) rfl (hb hby at_147) rfl (jfeq hb1_147).2 (by decide) (by decide) ?_
              show Steps p.tables e below (T16.setTop (mkF m 161 #[.val (.long q1), .second, .val (.int p2), .val (.int p3), .val (.long q4), .second, .val (.long (4503599627370496 : Int64)), .second, .val (.long v2), .second, .val (.int v4), .val (.long v6), .second, .val (.ref b7), .val (.long v27), .second, .val (.long v30), .second, .val (.long v32), .second, .val (.long v33), .second, .val (.int v35), .unset] [])) _
              refine XS.lload X16.here hx rfl (hb hby at_161) rfl ?_
              show Steps p.tables e below (T16.setTop (mkF m 163 #[.val (.long q1), .second, .val (.int p2), .val (.int p3), .val (.long q4), .second, .val (.long (4503599627370496 : Int64)), .second, .val (.long v2), .second, .val (.int v4), .val (.long v6), .second, .val (.ref b7), .val (.long v27), .second, .val (.long v30), .second, .val (.long v32), .second, .val (.long v33), .second, .val (.int v35), .unset] [(.long v30)])) _
              refine XS.lload X16.here hx rfl (hb hby at_163) rfl ?_
              show Steps p.tables e below (T16.setTop (mkF m 165 #[.val (.long q1), .second, .val (.int p2), .val (.int p3), .val (.long q4), .second, .val (.long (4503599627370496 : Int64)), .second, .val (.long v2), .second, .val (.int v4), .val (.long v6), .second, .val (.ref b7), .val (.long v27), .second, .val (.long v30), .second, .val (.long v32), .second, .val (.long v33), .second, .val (.int v35), .unset] [(.long v33), (.long v30)])) _
              refine XS.lneg X16.here hx rfl (hb hby at_165) rfl ?_
              show Steps p.tables e below (T16.setTop (mkF m 166 #[.val (.long q1), .second, .val (.int p2), .val (.int p3), .val (.long q4), .second, .val (.long (4503599627370496 : Int64)), .second, .val (.long v2), .second, .val (.int v4), .val (.long v6), .second, .val (.ref b7), .val (.long v27), .second, .val (.long v30), .second, .val (.long v32), .second, .val (.long v33), .second, .val (.int v35), .unset] [(.long ((-v33))), (.long v30)])) _
              refine XS.lcmp X16.here hx rfl (hb hby at_166) rfl ?_
              show Steps p.tables e below (T16.setTop (mkF m 167 #[.val (.long q1), .second, .val (.int p2), .val (.int p3), .val (.long q4), .second, .val (.long (4503599627370496 : Int64)), .second, .val (.long v2), .second, .val (.int v4), .val (.long v6), .second, .val (.ref b7), .val (.long v27), .second, .val (.long v30), .second, .val (.long v32), .second, .val (.long v33), .second, .val (.int v35), .unset] [(.int (lcmpW v30 ((-v33))))])) _
              refine XS.ifNo X16.here hx rfl (hb hby at_167) rfl (jflt hb2_167).1 ?_
              show Steps p.tables e below (T16.setTop (mkF m 170 #[.val (.long q1), .second, .val (.int p2), .val (.int p3), .val (.long q4), .second, .val (.long (4503599627370496 : Int64)), .second, .val (.long v2), .second, .val (.int v4), .val (.long v6), .second, .val (.ref b7), .val (.long v27), .second, .val (.long v30), .second, .val (.long v32), .second, .val (.long v33), .second, .val (.int v35), .unset] [])) _
              refine XS.lload X16.here hx rfl (hb hby at_170) rfl ?_
              show Steps p.tables e below (T16.setTop (mkF m 172 #[.val (.long q1), .second, .val (.int p2), .val (.int p3), .val (.long q4), .second, .val (.long (4503599627370496 : Int64)), .second, .val (.long v2), .second, .val (.int v4), .val (.long v6), .second, .val (.ref b7), .val (.long v27), .second, .val (.long v30), .second, .val (.long v32), .second, .val (.long v33), .second, .val (.int v35), .unset] [(.long v30)])) _
              refine XS.lload X16.here hx rfl (hb hby at_172) rfl ?_
              show Steps p.tables e below (T16.setTop (mkF m 174 #[.val (.long q1), .second, .val (.int p2), .val (.int p3), .val (.long q4), .second, .val (.long (4503599627370496 : Int64)), .second, .val (.long v2), .second, .val (.int v4), .val (.long v6), .second, .val (.ref b7), .val (.long v27), .second, .val (.long v30), .second, .val (.long v32), .second, .val (.long v33), .second, .val (.int v35), .unset] [(.long v33), (.long v30)])) _
              refine XS.lneg X16.here hx rfl (hb hby at_174) rfl ?_
              show Steps p.tables e below (T16.setTop (mkF m 175 #[.val (.long q1), .second, .val (.int p2), .val (.int p3), .val (.long q4), .second, .val (.long (4503599627370496 : Int64)), .second, .val (.long v2), .second, .val (.int v4), .val (.long v6), .second, .val (.ref b7), .val (.long v27), .second, .val (.long v30), .second, .val (.long v32), .second, .val (.long v33), .second, .val (.int v35), .unset] [(.long ((-v33))), (.long v30)])) _
              refine XS.lcmp X16.here hx rfl (hb hby at_175) rfl ?_
              show Steps p.tables e below (T16.setTop (mkF m 176 #[.val (.long q1), .second, .val (.int p2), .val (.int p3), .val (.long q4), .second, .val (.long (4503599627370496 : Int64)), .second, .val (.long v2), .second, .val (.int v4), .val (.long v6), .second, .val (.ref b7), .val (.long v27), .second, .val (.long v30), .second, .val (.long v32), .second, .val (.long v33), .second, .val (.int v35), .unset] [(.int (lcmpW v30 ((-v33))))])) _
              refine XS.ifNo X16.here hx rfl (hb hby at_176) rfl (jteq hb3_176).2 ?_
              show Steps p.tables e below (T16.setTop (mkF m 179 #[.val (.long q1), .second, .val (.int p2), .val (.int p3), .val (.long q4), .second, .val (.long (4503599627370496 : Int64)), .second, .val (.long v2), .second, .val (.int v4), .val (.long v6), .second, .val (.ref b7), .val (.long v27), .second, .val (.long v30), .second, .val (.long v32), .second, .val (.long v33), .second, .val (.int v35), .unset] [])) _
              refine XS.iload X16.here hx rfl (hb hby at_179) rfl ?_
              show Steps p.tables e below (T16.setTop (mkF m 181 #[.val (.long q1), .second, .val (.int p2), .val (.int p3), .val (.long q4), .second, .val (.long (4503599627370496 : Int64)), .second, .val (.long v2), .second, .val (.int v4), .val (.long v6), .second, .val (.ref b7), .val (.long v27), .second, .val (.long v30), .second, .val (.long v32), .second, .val (.long v33), .second, .val (.int v35), .unset] [(.int v35)])) _
              refine XS.ifNo X16.here hx rfl (hb hby at_181) rfl ((if0 _ _).trans (teq hb4_181).2) ?_
              show Steps p.tables e below (T16.setTop (mkF m 184 #[.val (.long q1), .second, .val (.int p2), .val (.int p3), .val (.long q4), .second, .val (.long (4503599627370496 : Int64)), .second, .val (.long v2), .second, .val (.int v4), .val (.long v6), .second, .val (.ref b7), .val (.long v27), .second, .val (.long v30), .second, .val (.long v32), .second, .val (.long v33), .second, .val (.int v35), .unset] [])) _
              refine XS.iconst X16.here hx rfl (hb hby at_184) ?_
              show Steps p.tables e below (T16.setTop (mkF m 185 #[.val (.long q1), .second, .val (.int p2), .val (.int p3), .val (.long q4), .second, .val (.long (4503599627370496 : Int64)), .second, .val (.long v2), .second, .val (.int v4), .val (.long v6), .second, .val (.ref b7), .val (.long v27), .second, .val (.long v30), .second, .val (.long v32), .second, .val (.long v33), .second, .val (.int v35), .unset] [(.int (-1 : Int32))])) _
              refine XS.istore X16.here hx rfl (hb hby at_185) rfl (l' := #[.val (.long q1), .second, .val (.int p2), .val (.int p3), .val (.long q4), .second, .val (.long (4503599627370496 : Int64)), .second, .val (.long v2), .second, .val (.int v4), .val (.long v6), .second, .val (.ref b7), .val (.long v27), .second, .val (.long v30), .second, .val (.long v32), .second, .val (.long v33), .second, .val (.int v35), .val (.int (-1 : Int32))]) rfl ?_
              show Steps p.tables e below (T16.setTop (mkF m 187 #[.val (.long q1), .second, .val (.int p2), .val (.int p3), .val (.long q4), .second, .val (.long (4503599627370496 : Int64)), .second, .val (.long v2), .second, .val (.int v4), .val (.long v6), .second, .val (.ref b7), .val (.long v27), .second, .val (.long v30), .second, .val (.long v32), .second, .val (.long v33), .second, .val (.int v35), .val (.int (-1 : Int32))] [])) _
              refine XS.goto X16.here hx rfl (pc0 := 187) (pc' := 193) rfl (hb hby at_187) (by decide) (by decide) ?_
              exact kq
            · skip
              refine ⟨(0 : Int32), Or.inr (Or.inr (Or.inr (Or.inr (Or.inr (Or.inr (Or.inr (Or.inr (Or.inl (⟨hb0_139, hb1_147, hb2_167, hb3_176, hb4_181, rfl⟩))))))))), fun tq kq => pre36 tq ?_⟩
              show Steps p.tables e below (T16.setTop (mkF m 132 #[.val (.long q1), .second, .val (.int p2), .val (.int p3), .val (.long q4), .second, .val (.long (4503599627370496 : Int64)), .second, .val (.long v2), .second, .val (.int v4), .val (.long v6), .second, .val (.ref b7), .val (.long v27), .second, .val (.long v30), .second, .val (.long v32), .second, .val (.long v33), .second, .unset, .unset] [(.int v35)])) _
              refine XS.istore X16.here hx rfl (hb hby at_132) rfl (l' := #[.val (.long q1), .second, .val (.int p2), .val (.int p3), .val (.long q4), .second, .val (.long (4503599627370496 : Int64)), .second, .val (.long v2), .second, .val (.int v4), .val (.long v6), .second, .val (.ref b7), .val (.long v27), .second, .val (.long v30), .second, .val (.long v32), .second, .val (.long v33), .second, .val (.int v35), .unset]) rfl ?_
              show Steps p.tables e below (T16.setTop (mkF m 134 #[.val (.long q1), .second, .val (.int p2), .val (.int p3), .val (.long q4), .second, .val (.long (4503599627370496 : Int64)), .second, .val (.long v2), .second, .val (.int v4), .val (.long v6), .second, .val (.ref b7), .val (.long v27), .second, .val (.long v30), .second, .val (.long v32), .second, .val (.long v33), .second, .val (.int v35), .unset] [])) _
              refine XS.lload X16.here hx rfl (hb hby at_134) rfl ?_
              show Steps p.tables e below (T16.setTop (mkF m 136 #[.val (.long q1), .second, .val (.int p2), .val (.int p3), .val (.long q4), .second, .val (.long (4503599627370496 : Int64)), .second, .val (.long v2), .second, .val (.int v4), .val (.long v6), .second, .val (.ref b7), .val (.long v27), .second, .val (.long v30), .second, .val (.long v32), .second, .val (.long v33), .second, .val (.int v35), .unset] [(.long v30)])) _
              refine XS.lload X16.here hx rfl (hb hby at_136) rfl ?_
              show Steps p.tables e below (T16.setTop (mkF m 138 #[.val (.long q1), .second, .val (.int p2), .val (.int p3), .val (.long q4), .second, .val (.long (4503599627370496 : Int64)), .second, .val (.long v2), .second, .val (.int v4), .val (.long v6), .second, .val (.ref b7), .val (.long v27), .second, .val (.long v30), .second, .val (.long v32), .second, .val (.long v33), .second, .val (.int v35), .unset] [(.long v32), (.long v30)])) _
              refine XS.lcmp X16.here hx rfl (hb hby at_138) rfl ?_
              show Steps p.tables e below (T16.setTop (mkF m 139 #[.val (.long q1), .second, .val (.int p2), .val (.int p3), .val (.long q4), .second, .val (.long (4503599627370496 : Int64)), .second, .val (.long v2), .second, .val (.int v4), .val (.long v6), .second, .val (.ref b7), .val (.long v27), .second, .val (.long v30), .second, .val (.long v32), .second, .val (.long v33), .second, .val (.int v35), .unset] [(.int (lcmpW v30 v32))])) _
              refine XS.ifNo X16.here hx rfl (hb hby at_139) rfl (jflt hb0_139).2.2.1 ?_
              show Steps p.tables e below (T16.setTop (mkF m 142 #[.val (.long q1), .second, .val (.int p2), .val (.int p3), .val (.long q4), .second, .val (.long (4503599627370496 : Int64)), .second, .val (.long v2), .second, .val (.int v4), .val (.long v6), .second, .val (.ref b7), .val (.long v27), .second, .val (.long v30), .second, .val (.long v32), .second, .val (.long v33), .second, .val (.int v35), .unset] [])) _
              refine XS.lload X16.here hx rfl (hb hby at_142) rfl ?_
              show Steps p.tables e below (T16.setTop (mkF m 144 #[.val (.long q1), .second, .val (.int p2), .val (.int p3), .val (.long q4), .second, .val (.long (4503599627370496 : Int64)), .second, .val (.long v2), .second, .val (.int v4), .val (.long v6), .second, .val (.ref b7), .val (.long v27), .second, .val (.long v30), .second, .val (.long v32), .second, .val (.long v33), .second, .val (.int v35), .unset] [(.long v30)])) _
              refine XS.lload X16.here hx rfl (hb hby at_144) rfl ?_
              show Steps p.tables e below (T16.setTop (mkF m 146 #[.val (.long q1), .second, .val (.int p2), .val (.int p3), .val (.long q4), .second, .val (.long (4503599627370496 : Int64)), .second, .val (.long v2), .second, .val (.int v4), .val (.long v6), .second, .val (.ref b7), .val (.long v27), .second, .val (.long v30), .second, .val (.long v32), .second, .val (.long v33), .second, .val (.int v35), .unset] [(.long v32), (.long v30)])) _
              refine XS.lcmp X16.here hx rfl (hb hby at_146) rfl ?_
              show Steps p.tables e below (T16.setTop (mkF m 147 #[.val (.long q1), .second, .val (.int p2), .val (.int p3), .val (.long q4), .second, .val (.long (4503599627370496 : Int64)), .second, .val (.long v2), .second, .val (.int v4), .val (.long v6), .second, .val (.ref b7), .val (.long v27), .second, .val (.long v30), .second, .val (.long v32), .second, .val (.long v33), .second, .val (.int v35), .unset] [(.int (lcmpW v30 v32))])) _
              refine XS.ifYes X16.here hx rfl (pc0 := 147) (pc' := 161) rfl (hb hby at_147) rfl (jfeq hb1_147).2 (by decide) (by decide) ?_
              show Steps p.tables e below (T16.setTop (mkF m 161 #[.val (.long q1), .second, .val (.int p2), .val (.int p3), .val (.long q4), .second, .val (.long (4503599627370496 : Int64)), .second, .val (.long v2), .second, .val (.int v4), .val (.long v6), .second, .val (.ref b7), .val (.long v27), .second, .val (.long v30), .second, .val (.long v32), .second, .val (.long v33), .second, .val (.int v35), .unset] [])) _
              refine XS.lload X16.here hx rfl (hb hby at_161) rfl ?_
              show Steps p.tables e below (T16.setTop (mkF m 163 #[.val (.long q1), .second, .val (.int p2), .val (.int p3), .val (.long q4), .second, .val (.long (4503599627370496 : Int64)), .second, .val (.long v2), .second, .val (.int v4), .val (.long v6), .second, .val (.ref b7), .val (.long v27), .second, .val (.long v30), .second, .val (.long v32), .second, .val (.long v33), .second, .val (.int v35), .unset] [(.long v30)])) _
              refine XS.lload X16.here hx rfl (hb hby at_163) rfl ?_
              show Steps p.tables e below (T16.setTop (mkF m 165 #[.val (.long q1), .second, .val (.int p2), .val (.int p3), .val (.long q4), .second, .val (.long (4503599627370496 : Int64)), .second, .val (.long v2), .second, .val (.int v4), .val (.long v6), .second, .val (.ref b7), .val (.long v27), .second, .val (.long v30), .second, .val (.long v32), .second, .val (.long v33), .second, .val (.int v35), .unset] [(.long v33), (.long v30)])) _
              refine XS.lneg X16.here hx rfl (hb hby at_165) rfl ?_
              show Steps p.tables e below (T16.setTop (mkF m 166 #[.val (.long q1), .second, .val (.int p2), .val (.int p3), .val (.long q4), .second, .val (.long (4503599627370496 : Int64)), .second, .val (.long v2), .second, .val (.int v4), .val (.long v6), .second, .val (.ref b7), .val (.long v27), .second, .val (.long v30), .second, .val (.long v32), .second, .val (.long v33), .second, .val (.int v35), .unset] [(.long ((-v33))), (.long v30)])) _
              refine XS.lcmp X16.here hx rfl (hb hby at_166) rfl ?_
              show Steps p.tables e below (T16.setTop (mkF m 167 #[.val (.long q1), .second, .val (.int p2), .val (.int p3), .val (.long q4), .second, .val (.long (4503599627370496 : Int64)), .second, .val (.long v2), .second, .val (.int v4), .val (.long v6), .second, .val (.ref b7), .val (.long v27), .second, .val (.long v30), .second, .val (.long v32), .second, .val (.long v33), .second, .val (.int v35), .unset] [(.int (lcmpW v30 ((-v33))))])) _
              refine XS.ifNo X16.here hx rfl (hb hby at_167) rfl (jflt hb2_167).1 ?_
              show Steps p.tables e below (T16.setTop (mkF m 170 #[.val (.long q1), .second, .val (.int p2), .val (.int p3), .val (.long q4), .second, .val (.long (4503599627370496 : Int64)), .second, .val (.long v2), .second, .val (.int v4), .val (.long v6), .second, .val (.ref b7), .val (.long v27), .second, .val (.long v30), .second, .val (.long v32), .second, .val (.long v33), .second, .val (.int v35), .unset] [])) _
              refine XS.lload X16.here hx rfl (hb hby at_170) rfl ?_
              show Steps p.tables e below (T16.setTop (mkF m 172 #[.val (.long q1), .second, .val (.int p2), .val (.int p3), .val (.long q4), .second, .val (.long (4503599627370496 : Int64)), .second, .val (.long v2), .second, .val (.int v4), .val (.long v6), .second, .val (.ref b7), .val (.long v27), .second, .val (.long v30), .second, .val (.long v32), .second, .val (.long v33), .second, .val (.int v35), .unset] [(.long v30)])) _
              refine XS.lload X16.here hx rfl (hb hby at_172) rfl ?_
              show Steps p.tables e below (T16.setTop (mkF m 174 #[.val (.long q1), .second, .val (.int p2), .val (.int p3), .val (.long q4), .second, .val (.long (4503599627370496 : Int64)), .second, .val (.long v2), .second, .val (.int v4), .val (.long v6), .second, .val (.ref b7), .val (.long v27), .second, .val (.long v30), .second, .val (.long v32), .second, .val (.long v33), .second, .val (.int v35), .unset] [(.long v33), (.long v30)])) _
              refine XS.lneg X16.here hx rfl (hb hby at_174) rfl ?_
              show Steps p.tables e below (T16.setTop (mkF m 175 #[.val (.long q1), .second, .val (.int p2), .val (.int p3), .val (.long q4), .second, .val (.long (4503599627370496 : Int64)), .second, .val (.long v2), .second, .val (.int v4), .val (.long v6), .second, .val (.ref b7), .val (.long v27), .second, .val (.long v30), .second, .val (.long v32), .second, .val (.long v33), .second, .val (.int v35), .unset] [(.long ((-v33))), (.long v30)])) _
              refine XS.lcmp X16.here hx rfl (hb hby at_175) rfl ?_
              show Steps p.tables e below (T16.setTop (mkF m 176 #[.val (.long q1), .second, .val (.int p2), .val (.int p3), .val (.long q4), .second, .val (.long (4503599627370496 : Int64)), .second, .val (.long v2), .second, .val (.int v4), .val (.long v6), .second, .val (.ref b7), .val (.long v27), .second, .val (.long v30), .second, .val (.long v32), .second, .val (.long v33), .second, .val (.int v35), .unset] [(.int (lcmpW v30 ((-v33))))])) _
              refine XS.ifNo X16.here hx rfl (hb hby at_176) rfl (jteq hb3_176).2 ?_
              show Steps p.tables e below (T16.setTop (mkF m 179 #[.val (.long q1), .second, .val (.int p2), .val (.int p3), .val (.long q4), .second, .val (.long (4503599627370496 : Int64)), .second, .val (.long v2), .second, .val (.int v4), .val (.long v6), .second, .val (.ref b7), .val (.long v27), .second, .val (.long v30), .second, .val (.long v32), .second, .val (.long v33), .second, .val (.int v35), .unset] [])) _
              refine XS.iload X16.here hx rfl (hb hby at_179) rfl ?_
              show Steps p.tables e below (T16.setTop (mkF m 181 #[.val (.long q1), .second, .val (.int p2), .val (.int p3), .val (.long q4), .second, .val (.long (4503599627370496 : Int64)), .second, .val (.long v2), .second, .val (.int v4), .val (.long v6), .second, .val (.ref b7), .val (.long v27), .second, .val (.long v30), .second, .val (.long v32), .second, .val (.long v33), .second, .val (.int v35), .unset] [(.int v35)])) _
              refine XS.ifYes X16.here hx rfl (pc0 := 181) (pc' := 190) rfl (hb hby at_181) rfl ((if0 _ _).trans (feq hb4_181).2) (by decide) (by decide) ?_
              show Steps p.tables e below (T16.setTop (mkF m 190 #[.val (.long q1), .second, .val (.int p2), .val (.int p3), .val (.long q4), .second, .val (.long (4503599627370496 : Int64)), .second, .val (.long v2), .second, .val (.int v4), .val (.long v6), .second, .val (.ref b7), .val (.long v27), .second, .val (.long v30), .second, .val (.long v32), .second, .val (.long v33), .second, .val (.int v35), .unset] [])) _
              refine XS.iconst X16.here hx rfl (hb hby at_190) ?_
              show Steps p.tables e below (T16.setTop (mkF m 191 #[.val (.long q1), .second, .val (.int p2), .val (.int p3), .val (.long q4), .second, .val (.long (4503599627370496 : Int64)), .second, .val (.long v2), .second, .val (.int v4), .val (.long v6), .second, .val (.ref b7), .val (.long v27), .second, .val (.long v30), .second, .val (.long v32), .second, .val (.long v33), .second, .val (.int v35), .unset] [(.int (0 : Int32))])) _
              refine XS.istore X16.here hx rfl (hb hby at_191) rfl (l' := #[.val (.long q1), .second, .val (.int p2), .val (.int p3), .val (.long q4), .second, .val (.long (4503599627370496 : Int64)), .second, .val (.long v2), .second, .val (.int v4), .val (.long v6), .second, .val (.ref b7), .val (.long v27), .second, .val (.long v30), .second, .val (.long v32), .second, .val (.long v33), .second, .val (.int v35), .val (.int (0 : Int32))]) rfl ?_
              exact kq
          · skip
            refine ⟨(0 : Int32), Or.inr (Or.inr (Or.inr (Or.inr (Or.inr (Or.inr (Or.inr (Or.inr (Or.inr (⟨hb0_139, hb1_147, hb2_167, hb3_176, rfl⟩))))))))), fun tq kq => pre36 tq ?_⟩
            show Steps p.tables e below (T16.setTop (mkF m 132 #[.val (.long q1), .second, .val (.int p2), .val (.int p3), .val (.long q4), .second, .val (.long (4503599627370496 : Int64)), .second, .val (.long v2), .second, .val (.int v4), .val (.long v6), .second, .val (.ref b7), .val (.long v27), .second, .val (.long v30), .second, .val (.long v32), .second, .val (.long v33), .second, .unset, .unset] [(.int v35)])) _
            refine XS.istore X16.here hx rfl (hb hby at_132) rfl (l' := #[.val (.long q1), .second, .val (.int p2), .val (.int p3), .val (.long q4), .second, .val (.long (4503599627370496 : Int64)), .second, .val (.long v2), .second, .val (.int v4), .val (.long v6), .second, .val (.ref b7), .val (.long v27), .second, .val (.long v30), .second, .val (.long v32), .second, .val (.long v33), .second, .val (.int v35), .unset]) rfl ?_
            show Steps p.tables e below (T16.setTop (mkF m 134 #[.val (.long q1), .second, .val (.int p2), .val (.int p3), .val (.long q4), .second, .val (.long (4503599627370496 : Int64)), .second, .val (.long v2), .second, .val (.int v4), .val (.long v6), .second, .val (.ref b7), .val (.long v27), .second, .val (.long v30), .second, .val (.long v32), .second, .val (.long v33), .second, .val (.int v35), .unset] [])) _
            refine XS.lload X16.here hx rfl (hb hby at_134) rfl ?_
            show Steps p.tables e below (T16.setTop (mkF m 136 #[.val (.long q1), .second, .val (.int p2), .val (.int p3), .val (.long q4), .second, .val (.long (4503599627370496 : Int64)), .second, .val (.long v2), .second, .val (.int v4), .val (.long v6), .second, .val (.ref b7), .val (.long v27), .second, .val (.long v30), .second, .val (.long v32), .second, .val (.long v33), .second, .val (.int v35), .unset] [(.long v30)])) _
            refine XS.lload X16.here hx rfl (hb hby at_136) rfl ?_
            show Steps p.tables e below (T16.setTop (mkF m 138 #[.val (.long q1), .second, .val (.int p2), .val (.int p3), .val (.long q4), .second, .val (.long (4503599627370496 : Int64)), .second, .val (.long v2), .second, .val (.int v4), .val (.long v6), .second, .val (.ref b7), .val (.long v27), .second, .val (.long v30), .second, .val (.long v32), .second, .val (.long v33), .second, .val (.int v35), .unset] [(.long v32), (.long v30)])) _
            refine XS.lcmp X16.here hx rfl (hb hby at_138) rfl ?_
            show Steps p.tables e below (T16.setTop (mkF m 139 #[.val (.long q1), .second, .val (.int p2), .val (.int p3), .val (.long q4), .second, .val (.long (4503599627370496 : Int64)), .second, .val (.long v2), .second, .val (.int v4), .val (.long v6), .second, .val (.ref b7), .val (.long v27), .second, .val (.long v30), .second, .val (.long v32), .second, .val (.long v33), .second, .val (.int v35), .unset] [(.int (lcmpW v30 v32))])) _
            refine XS.ifNo X16.here hx rfl (hb hby at_139) rfl (jflt hb0_139).2.2.1 ?_
            show Steps p.tables e below (T16.setTop (mkF m 142 #[.val (.long q1), .second, .val (.int p2), .val (.int p3), .val (.long q4), .second, .val (.long (4503599627370496 : Int64)), .second, .val (.long v2), .second, .val (.int v4), .val (.long v6), .second, .val (.ref b7), .val (.long v27), .second, .val (.long v30), .second, .val (.long v32), .second, .val (.long v33), .second, .val (.int v35), .unset] [])) _
            refine XS.lload X16.here hx rfl (hb hby at_142) rfl ?_
            show Steps p.tables e below (T16.setTop (mkF m 144 #[.val (.long q1), .second, .val (.int p2), .val (.int p3), .val (.long q4), .second, .val (.long (4503599627370496 : Int64)), .second, .val (.long v2), .second, .val (.int v4), .val (.long v6), .second, .val (.ref b7), .val (.long v27), .second, .val (.long v30), .second, .val (.long v32), .second, .val (.long v33), .second, .val (.int v35), .unset] [(.long v30)])) _
            refine XS.lload X16.here hx rfl (hb hby at_144) rfl ?_
            show Steps p.tables e below (T16.setTop (mkF m 146 #[.val (.long q1), .second, .val (.int p2), .val (.int p3), .val (.long q4), .second, .val (.long (4503599627370496 : Int64)), .second, .val (.long v2), .second, .val (.int v4), .val (.long v6), .second, .val (.ref b7), .val (.long v27), .second, .val (.long v30), .second, .val (.long v32), .second, .val (.long v33), .second, .val (.int v35), .unset] [(.long v32), (.long v30)])) _
            refine XS.lcmp X16.here hx rfl (hb hby at_146) rfl ?_
            show Steps p.tables e below (T16.setTop (mkF m 147 #[.val (.long q1), .second, .val (.int p2), .val (.int p3), .val (.long q4), .second, .val (.long (4503599627370496 : Int64)), .second, .val (.long v2), .second, .val (.int v4), .val (.long v6), .second, .val (.ref b7), .val (.long v27), .second, .val (.long v30), .second, .val (.long v32), .second, .val (.long v33), .second, .val (.int v35), .unset] [(.int (lcmpW v30 v32))])) _
            refine XS.ifYes X16.here hx rfl (pc0 := 147) (pc' := 161) rfl (hb hby at_147) rfl (jfeq hb1_147).2 (by decide) (by decide) ?_
            show Steps p.tables e below (T16.setTop (mkF m 161 #[.val (.long q1), .second, .val (.int p2), .val (.int p3), .val (.long q4), .second, .val (.long (4503599627370496 : Int64)), .second, .val (.long v2), .second, .val (.int v4), .val (.long v6), .second, .val (.ref b7), .val (.long v27), .second, .val (.long v30), .second, .val (.long v32), .second, .val (.long v33), .second, .val (.int v35), .unset] [])) _
            refine XS.lload X16.here hx rfl (hb hby at_161) rfl ?_
            show Steps p.tables e below (T16.setTop (mkF m 163 #[.val (.long q1), .second, .val (.int p2), .val (.int p3), .val (.long q4), .second, .val (.long (4503599627370496 : Int64)), .second, .val (.long v2), .second, .val (.int v4), .val (.long v6), .second, .val (.ref b7), .val (.long v27), .second, .val (.long v30), .second, .val (.long v32), .second, .val (.long v33), .second, .val (.int v35), .unset] [(.long v30)])) _
            refine XS.lload X16.here hx rfl (hb hby at_163) rfl ?_
            show Steps p.tables e below (T16.setTop (mkF m 165 #[.val (.long q1), .second, .val (.int p2), .val (.int p3), .val (.long q4), .second, .val (.long (4503599627370496 : Int64)), .second, .val (.long v2), .second, .val (.int v4), .val (.long v6), .second, .val (.ref b7), .val (.long v27), .second, .val (.long v30), .second, .val (.long v32), .second, .val (.long v33), .second, .val (.int v35), .unset] [(.long v33), (.long v30)])) _
            refine XS.lneg X16.here hx rfl (hb hby at_165) rfl ?_
            show Steps p.tables e below (T16.setTop (mkF m 166 #[.val (.long q1), .second, .val (.int p2), .val (.int p3), .val (.long q4), .second, .val (.long (4503599627370496 : Int64)), .second, .val (.long v2), .second, .val (.int v4), .val (.long v6), .second, .val (.ref b7), .val (.long v27), .second, .val (.long v30), .second, .val (.long v32), .second, .val (.long v33), .second, .val (.int v35), .unset] [(.long ((-v33))), (.long v30)])) _
            refine XS.lcmp X16.here hx rfl (hb hby at_166) rfl ?_
            show Steps p.tables e below (T16.setTop (mkF m 167 #[.val (.long q1), .second, .val (.int p2), .val (.int p3), .val (.long q4), .second, .val (.long (4503599627370496 : Int64)), .second, .val (.long v2), .second, .val (.int v4), .val (.long v6), .second, .val (.ref b7), .val (.long v27), .second, .val (.long v30), .second, .val (.long v32), .second, .val (.long v33), .second, .val (.int v35), .unset] [(.int (lcmpW v30 ((-v33))))])) _
            refine XS.ifNo X16.here hx rfl (hb hby at_167) rfl (jflt hb2_167).1 ?_
            show Steps p.tables e below (T16.setTop (mkF m 170 #[.val (.long q1), .second, .val (.int p2), .val (.int p3), .val (.long q4), .second, .val (.long (4503599627370496 : Int64)), .second, .val (.long v2), .second, .val (.int v4), .val (.long v6), .second, .val (.ref b7), .val (.long v27), .second, .val (.long v30), .second, .val (.long v32), .second, .val (.long v33), .second, .val (.int v35), .unset] [])) _
            refine XS.lload X16.here hx rfl (hb hby at_170) rfl ?_
            show Steps p.tables e below (T16.setTop (mkF m 172 #[.val (.long q1), .second, .val (.int p2), .val (.int p3), .val (.long q4), .second, .val (.long (4503599627370496 : Int64)), .second, .val (.long v2), .second, .val (.int v4), .val (.long v6), .second, .val (.ref b7), .val (.long v27), .second, .val (.long v30), .second, .val (.long v32), .second, .val (.long v33), .second, .val (.int v35), .unset] [(.long v30)])) _
            refine XS.lload X16.here hx rfl (hb hby at_172) rfl ?_
            show Steps p.tables e below (T16.setTop (mkF m 174 #[.val (.long q1), .second, .val (.int p2), .val (.int p3), .val (.long q4), .second, .val (.long (4503599627370496 : Int64)), .second, .val (.long v2), .second, .val (.int v4), .val (.long v6), .second, .val (.ref b7), .val (.long v27), .second, .val (.long v30), .second, .val (.long v32), .second, .val (.long v33), .second, .val (.int v35), .unset] [(.long v33), (.long v30)])) _
            refine XS.lneg X16.here hx rfl (hb hby at_174) rfl ?_
            show Steps p.tables e below (T16.setTop (mkF m 175 #[.val (.long q1), .second, .val (.int p2), .val (.int p3), .val (.long q4), .second, .val (.long (4503599627370496 : Int64)), .second, .val (.long v2), .second, .val (.int v4), .val (.long v6), .second, .val (.ref b7), .val (.long v27), .second, .val (.long v30), .second, .val (.long v32), .second, .val (.long v33), .second, .val (.int v35), .unset] [(.long ((-v33))), (.long v30)])) _
            refine XS.lcmp X16.here hx rfl (hb hby at_175) rfl ?_
            show Steps p.tables e below (T16.setTop (mkF m 176 #[.val (.long q1), .second, .val (.int p2), .val (.int p3), .val (.long q4), .second, .val (.long (4503599627370496 : Int64)), .second, .val (.long v2), .second, .val (.int v4), .val (.long v6), .second, .val (.ref b7), .val (.long v27), .second, .val (.long v30), .second, .val (.long v32), .second, .val (.long v33), .second, .val (.int v35), .unset] [(.int (lcmpW v30 ((-v33))))])) _
            refine XS.ifYes X16.here hx rfl (pc0 := 176) (pc' := 190) rfl (hb hby at_176) rfl (jfeq hb3_176).2 (by decide) (by decide) ?_
            show Steps p.tables e below (T16.setTop (mkF m 190 #[.val (.long q1), .second, .val (.int p2), .val (.int p3), .val (.long q4), .second, .val (.long (4503599627370496 : Int64)), .second, .val (.long v2), .second, .val (.int v4), .val (.long v6), .second, .val (.ref b7), .val (.long v27), .second, .val (.long v30), .second, .val (.long v32), .second, .val (.long v33), .second, .val (.int v35), .unset] [])) _
            refine XS.iconst X16.here hx rfl (hb hby at_190) ?_
            show Steps p.tables e below (T16.setTop (mkF m 191 #[.val (.long q1), .second, .val (.int p2), .val (.int p3), .val (.long q4), .second, .val (.long (4503599627370496 : Int64)), .second, .val (.long v2), .second, .val (.int v4), .val (.long v6), .second, .val (.ref b7), .val (.long v27), .second, .val (.long v30), .second, .val (.long v32), .second, .val (.long v33), .second, .val (.int v35), .unset] [(.int (0 : Int32))])) _
            refine XS.istore X16.here hx rfl (hb hby at_191) rfl (l' := #[.val (.long q1), .second, .val (.int p2), .val (.int p3), .val (.long q4), .second, .val (.long (4503599627370496 : Int64)), .second, .val (.long v2), .second, .val (.int v4), .val (.long v6), .second, .val (.ref b7), .val (.long v27), .second, .val (.long v30), .second, .val (.long v32), .second, .val (.long v33), .second, .val (.int v35), .val (.int (0 : Int32))]) rfl ?_
            exact kq
  have pre39 : ∀ tq, Steps p.tables e below (T16.setTop (mkF m 197 #[.val (.long q1), .second, .val (.int p2), .val (.int p3), .val (.long q4), .second, .val (.long (4503599627370496 : Int64)), .second, .val (.long v2), .second, .val (.int v4), .val (.long v6), .second, .val (.ref b7), .val (.long v27), .second, .val (.long v30), .second, .val (.long v32), .second, .val (.long v33), .second, .val (.int v35), .val (.int v37)] [(.long v27), (.ref b7)])) tq → Steps p.tables e below (s₁.setTop (entryFrame m #[(.long q1), (.int p2), (.int p3), (.long q4)] maxLocals)) tq := by
    refine fun tq kq => pre38 tq ?_
    show Steps p.tables e below (T16.setTop (mkF m 193 #[.val (.long q1), .second, .val (.int p2), .val (.int p3), .val (.long q4), .second, .val (.long (4503599627370496 : Int64)), .second, .val (.long v2), .second, .val (.int v4), .val (.long v6), .second, .val (.ref b7), .val (.long v27), .second, .val (.long v30), .second, .val (.long v32), .second, .val (.long v33), .second, .val (.int v35), .val (.int v37)] [])) _
    refine XS.aload X16.here hx rfl (hb hby at_193) rfl rfl ?_
    show Steps p.tables e below (T16.setTop (mkF m 195 #[.val (.long q1), .second, .val (.int p2), .val (.int p3), .val (.long q4), .second, .val (.long (4503599627370496 : Int64)), .second, .val (.long v2), .second, .val (.int v4), .val (.long v6), .second, .val (.ref b7), .val (.long v27), .second, .val (.long v30), .second, .val (.long v32), .second, .val (.long v33), .second, .val (.int v35), .val (.int v37)] [(.ref b7)])) _
    refine XS.lload X16.here hx rfl (hb hby at_195) rfl ?_
    exact kq
  have Z40 : n0 ≤ T16.heap.size := (Nat.le_trans Z16 Kq16.1)
  obtain ⟨cq40, kq40, q40a, q40b, q40c⟩ := isOf hZ rfl f26
  obtain ⟨_, _, ⟨T40, L40, k40, n40⟩, -, X40, ⟨Lc40, hQ40, l40, y40, z40⟩, st40⟩ := X16.virtualBack hx (y := (⟨"com/example/partwise/partwise/storage/DecimalRange", "side", "(J)I"⟩ : MethodName)) (z := (⟨"com/example/partwise/partwise/storage/DecimalRange", "side", "(J)I"⟩ : MethodName)) hown (mvT hZ (hw _ (List.mem_of_getElem? (i := 44) rfl))) (mvT hZ (hw _ (List.mem_of_getElem? (i := 45) rfl))) (notFace_of_selects (args := #[]) (mvT hZ (hw _ (List.mem_of_getElem? (i := 47) rfl)))) (mvT hZ (hw _ (List.mem_of_getElem? (i := 47) rfl))) (mvT hZ (hw _ (List.mem_of_getElem? (i := 46) rfl))) (by decide) (backOf (W := 0) (rm8 l Z a0 hw [] b7 v27 u20 u21 u22 T16.heap n0 Z40 f18 f17 f19 (by have := hvv.2.2; omega)) hZ (hw _ (List.mem_of_getElem? (i := 48) rfl)) (hw _ (List.mem_of_getElem? (i := 3) rfl)) (by decide) (by decide)) q40a q40c (g := (mkF m 197 #[.val (.long q1), .second, .val (.int p2), .val (.int p3), .val (.long q4), .second, .val (.long (4503599627370496 : Int64)), .second, .val (.long v2), .second, .val (.int v4), .val (.long v6), .second, .val (.ref b7), .val (.long v27), .second, .val (.long v30), .second, .val (.long v32), .second, .val (.long v33), .second, .val (.int v35), .val (.int v37)] [(.long v27), (.ref b7)])) rfl (by rw [hml]; rfl) (Steps.refl _) (argsL := [(.long v27)]) (rest := []) (lenOf pd0_1 rfl) rfl (by show 2 * 0 + _ ≤ _; exact Nat.le_of_eq rfl) (hb hby at_197) (fun _ _ => ⟨rfl, rfl, (by decide : ((0 + 1) + 0) + 0 ≤ _), (by decide : ((0 + 3) + 0) + 0 ≤ _)⟩)
  dsimp only [Pt.U, Pt.locs, Pt.cells, Pt.slots] at X40 l40 y40 z40 st40 hQ40
  subst l40 y40 z40
  obtain ⟨r41, rfl, Nq40, ehq40, hq40⟩ := hQ40
  have N40 := Fr.app N16 Nq40
  have pre42 : ∀ tq, Steps p.tables e below (T40.setTop (mkF m 200 #[.val (.long q1), .second, .val (.int p2), .val (.int p3), .val (.long q4), .second, .val (.long (4503599627370496 : Int64)), .second, .val (.long v2), .second, .val (.int v4), .val (.long v6), .second, .val (.ref b7), .val (.long v27), .second, .val (.long v30), .second, .val (.long v32), .second, .val (.long v33), .second, .val (.int v35), .val (.int v37)] [(.int r41)])) tq → Steps p.tables e below (s₁.setTop (entryFrame m #[(.long q1), (.int p2), (.int p3), (.long q4)] maxLocals)) tq := fun tq kq => pre39 tq (st40.trans kq)
  obtain ⟨v43, hj44, pre44⟩ : ∃ v43 : Int32, ((r41 = v37 ∧ v43 = (1 : Int32)) ∨ (¬ (r41 = v37) ∧ v43 = (0 : Int32))) ∧ (∀ tq, Steps p.tables e below (T40.setTop (mkF m 210 #[.val (.long q1), .second, .val (.int p2), .val (.int p3), .val (.long q4), .second, .val (.long (4503599627370496 : Int64)), .second, .val (.long v2), .second, .val (.int v4), .val (.long v6), .second, .val (.ref b7), .val (.long v27), .second, .val (.long v30), .second, .val (.long v32), .second, .val (.long v33), .second, .val (.int v35), .val (.int v37)] [(.int v43)])) tq → Steps p.tables e below (s₁.setTop (entryFrame m #[(.long q1), (.int p2), (.int p3), (.long q4)] maxLocals)) tq) := by
    by_cases hb0_202 : r41 = v37
    · skip
      refine ⟨(1 : Int32), Or.inl (⟨hb0_202, rfl⟩), fun tq kq => pre42 tq ?_⟩
      show Steps p.tables e below (T40.setTop (mkF m 200 #[.val (.long q1), .second, .val (.int p2), .val (.int p3), .val (.long q4), .second, .val (.long (4503599627370496 : Int64)), .second, .val (.long v2), .second, .val (.int v4), .val (.long v6), .second, .val (.ref b7), .val (.long v27), .second, .val (.long v30), .second, .val (.long v32), .second, .val (.long v33), .second, .val (.int v35), .val (.int v37)] [(.int r41)])) _
      refine XS.iload X40.here hx rfl (hb hby at_200) rfl ?_
      show Steps p.tables e below (T40.setTop (mkF m 202 #[.val (.long q1), .second, .val (.int p2), .val (.int p3), .val (.long q4), .second, .val (.long (4503599627370496 : Int64)), .second, .val (.long v2), .second, .val (.int v4), .val (.long v6), .second, .val (.ref b7), .val (.long v27), .second, .val (.long v30), .second, .val (.long v32), .second, .val (.long v33), .second, .val (.int v35), .val (.int v37)] [(.int v37), (.int r41)])) _
      refine XS.icmpNo X40.here hx rfl (hb hby at_202) rfl (teq hb0_202).2 ?_
      show Steps p.tables e below (T40.setTop (mkF m 205 #[.val (.long q1), .second, .val (.int p2), .val (.int p3), .val (.long q4), .second, .val (.long (4503599627370496 : Int64)), .second, .val (.long v2), .second, .val (.int v4), .val (.long v6), .second, .val (.ref b7), .val (.long v27), .second, .val (.long v30), .second, .val (.long v32), .second, .val (.long v33), .second, .val (.int v35), .val (.int v37)] [])) _
      refine XS.iconst X40.here hx rfl (hb hby at_205) ?_
      show Steps p.tables e below (T40.setTop (mkF m 206 #[.val (.long q1), .second, .val (.int p2), .val (.int p3), .val (.long q4), .second, .val (.long (4503599627370496 : Int64)), .second, .val (.long v2), .second, .val (.int v4), .val (.long v6), .second, .val (.ref b7), .val (.long v27), .second, .val (.long v30), .second, .val (.long v32), .second, .val (.long v33), .second, .val (.int v35), .val (.int v37)] [(.int (1 : Int32))])) _
      refine XS.goto X40.here hx rfl (pc0 := 206) (pc' := 210) rfl (hb hby at_206) (by decide) (by decide) ?_
      exact kq
    · skip
      refine ⟨(0 : Int32), Or.inr (⟨hb0_202, rfl⟩), fun tq kq => pre42 tq ?_⟩
      show Steps p.tables e below (T40.setTop (mkF m 200 #[.val (.long q1), .second, .val (.int p2), .val (.int p3), .val (.long q4), .second, .val (.long (4503599627370496 : Int64)), .second, .val (.long v2), .second, .val (.int v4), .val (.long v6), .second, .val (.ref b7), .val (.long v27), .second, .val (.long v30), .second, .val (.long v32), .second, .val (.long v33), .second, .val (.int v35), .val (.int v37)] [(.int r41)])) _
      refine XS.iload X40.here hx rfl (hb hby at_200) rfl ?_
      show Steps p.tables e below (T40.setTop (mkF m 202 #[.val (.long q1), .second, .val (.int p2), .val (.int p3), .val (.long q4), .second, .val (.long (4503599627370496 : Int64)), .second, .val (.long v2), .second, .val (.int v4), .val (.long v6), .second, .val (.ref b7), .val (.long v27), .second, .val (.long v30), .second, .val (.long v32), .second, .val (.long v33), .second, .val (.int v35), .val (.int v37)] [(.int v37), (.int r41)])) _
      refine XS.icmpYes X40.here hx rfl (pc0 := 202) (pc' := 209) rfl (hb hby at_202) rfl (feq hb0_202).2 (by decide) (by decide) ?_
      show Steps p.tables e below (T40.setTop (mkF m 209 #[.val (.long q1), .second, .val (.int p2), .val (.int p3), .val (.long q4), .second, .val (.long (4503599627370496 : Int64)), .second, .val (.long v2), .second, .val (.int v4), .val (.long v6), .second, .val (.ref b7), .val (.long v27), .second, .val (.long v30), .second, .val (.long v32), .second, .val (.long v33), .second, .val (.int v35), .val (.int v37)] [])) _
      refine XS.iconst X40.here hx rfl (hb hby at_209) ?_
      exact kq
  have hfin : v43 = 1 := by
    have mk := Jvm.Kit.i64_mask v2 (1 : Int64) (k := 1) (by decide) (by decide)
    have hmm : ((v2.toInt.toNat : Nat) : Int) = v2.toInt := Int.toNat_of_nonneg (by have := hm.1; omega)
    have ng := c_lneg v33
    have n1 := (-v33).toInt_lt
    have n2 := (-v33).le_toInt
    have hm1 := hm.1
    have hm2 := hm.2
    have hx1 := hvv.1
    have hc1 := hq16
    have hfa := hv_v32
    have hfb := hj34
    skip
    rcases hE with hk | hk | hk | hk | hk | hk | hk | hk
    · rw [hk] at hx1 hc1 hfa hfb
      rw [show (0 : Int32).toInt.toNat = 0 from by decide] at hx1 hc1
      rw [show ((1 : Int64) <<< (((0 : Int32) + (1 : Int32)) &&& 0x3f).toInt64) = (2 : Int64) from by decide] at hfa hfb
      rw [show ((1 : Int64) <<< ((0 : Int32) &&& 0x3f).toInt64) = (1 : Int64) from by decide] at hfb
      simp only [Int64.lt_iff_toInt_lt, ← Int64.toInt_inj, Int64.reduceToInt, Int32.lt_iff_toInt_lt, ← Int32.toInt_inj, Int32.reduceToInt, mk] at hfa hfb hj36 hj38 hj44 hq40 ⊢
      omega
    · rw [hk] at hx1 hc1 hfa hfb
      rw [show (1 : Int32).toInt.toNat = 1 from by decide] at hx1 hc1
      rw [show ((1 : Int64) <<< (((1 : Int32) + (1 : Int32)) &&& 0x3f).toInt64) = (4 : Int64) from by decide] at hfa hfb
      rw [show ((1 : Int64) <<< ((1 : Int32) &&& 0x3f).toInt64) = (2 : Int64) from by decide] at hfb
      simp only [Int64.lt_iff_toInt_lt, ← Int64.toInt_inj, Int64.reduceToInt, Int32.lt_iff_toInt_lt, ← Int32.toInt_inj, Int32.reduceToInt, mk] at hfa hfb hj36 hj38 hj44 hq40 ⊢
      omega
    · rw [hk] at hx1 hc1 hfa hfb
      rw [show (2 : Int32).toInt.toNat = 2 from by decide] at hx1 hc1
      rw [show ((1 : Int64) <<< (((2 : Int32) + (1 : Int32)) &&& 0x3f).toInt64) = (8 : Int64) from by decide] at hfa hfb
      rw [show ((1 : Int64) <<< ((2 : Int32) &&& 0x3f).toInt64) = (4 : Int64) from by decide] at hfb
      simp only [Int64.lt_iff_toInt_lt, ← Int64.toInt_inj, Int64.reduceToInt, Int32.lt_iff_toInt_lt, ← Int32.toInt_inj, Int32.reduceToInt, mk] at hfa hfb hj36 hj38 hj44 hq40 ⊢
      omega
    · rw [hk] at hx1 hc1 hfa hfb
      rw [show (3 : Int32).toInt.toNat = 3 from by decide] at hx1 hc1
      rw [show ((1 : Int64) <<< (((3 : Int32) + (1 : Int32)) &&& 0x3f).toInt64) = (16 : Int64) from by decide] at hfa hfb
      rw [show ((1 : Int64) <<< ((3 : Int32) &&& 0x3f).toInt64) = (8 : Int64) from by decide] at hfb
      simp only [Int64.lt_iff_toInt_lt, ← Int64.toInt_inj, Int64.reduceToInt, Int32.lt_iff_toInt_lt, ← Int32.toInt_inj, Int32.reduceToInt, mk] at hfa hfb hj36 hj38 hj44 hq40 ⊢
      omega
    · rw [hk] at hx1 hc1 hfa hfb
      rw [show (4 : Int32).toInt.toNat = 4 from by decide] at hx1 hc1
      rw [show ((1 : Int64) <<< (((4 : Int32) + (1 : Int32)) &&& 0x3f).toInt64) = (32 : Int64) from by decide] at hfa hfb
      rw [show ((1 : Int64) <<< ((4 : Int32) &&& 0x3f).toInt64) = (16 : Int64) from by decide] at hfb
      simp only [Int64.lt_iff_toInt_lt, ← Int64.toInt_inj, Int64.reduceToInt, Int32.lt_iff_toInt_lt, ← Int32.toInt_inj, Int32.reduceToInt, mk] at hfa hfb hj36 hj38 hj44 hq40 ⊢
      omega
    · rw [hk] at hx1 hc1 hfa hfb
      rw [show (5 : Int32).toInt.toNat = 5 from by decide] at hx1 hc1
      rw [show ((1 : Int64) <<< (((5 : Int32) + (1 : Int32)) &&& 0x3f).toInt64) = (64 : Int64) from by decide] at hfa hfb
      rw [show ((1 : Int64) <<< ((5 : Int32) &&& 0x3f).toInt64) = (32 : Int64) from by decide] at hfb
      simp only [Int64.lt_iff_toInt_lt, ← Int64.toInt_inj, Int64.reduceToInt, Int32.lt_iff_toInt_lt, ← Int32.toInt_inj, Int32.reduceToInt, mk] at hfa hfb hj36 hj38 hj44 hq40 ⊢
      omega
    · rw [hk] at hx1 hc1 hfa hfb
      rw [show (6 : Int32).toInt.toNat = 6 from by decide] at hx1 hc1
      rw [show ((1 : Int64) <<< (((6 : Int32) + (1 : Int32)) &&& 0x3f).toInt64) = (128 : Int64) from by decide] at hfa hfb
      rw [show ((1 : Int64) <<< ((6 : Int32) &&& 0x3f).toInt64) = (64 : Int64) from by decide] at hfb
      simp only [Int64.lt_iff_toInt_lt, ← Int64.toInt_inj, Int64.reduceToInt, Int32.lt_iff_toInt_lt, ← Int32.toInt_inj, Int32.reduceToInt, mk] at hfa hfb hj36 hj38 hj44 hq40 ⊢
      omega
    · rw [hk] at hx1 hc1 hfa hfb
      rw [show (7 : Int32).toInt.toNat = 7 from by decide] at hx1 hc1
      rw [show ((1 : Int64) <<< (((7 : Int32) + (1 : Int32)) &&& 0x3f).toInt64) = (256 : Int64) from by decide] at hfa hfb
      rw [show ((1 : Int64) <<< ((7 : Int32) &&& 0x3f).toInt64) = (128 : Int64) from by decide] at hfb
      simp only [Int64.lt_iff_toInt_lt, ← Int64.toInt_inj, Int64.reduceToInt, Int32.lt_iff_toInt_lt, ← Int32.toInt_inj, Int32.reduceToInt, mk] at hfa hfb hj36 hj38 hj44 hq40 ⊢
      omega
  subst hfin
  obtain ⟨fs, hr, hrun, hended, hW, hsame⟩ := X40.leave (v := some (.int (1 : Int32))) (fun h => by rw [Bd.returns] at h; cases h)
  refine ⟨_, _, pre44 _ ?_, hrun, hended, _, _, rfl, ?_, ⟨_, rfl⟩, hW, hsame.mono (by decide) (by decide)⟩
  · skip
    show Steps p.tables e below (T40.setTop (mkF m 210 #[.val (.long q1), .second, .val (.int p2), .val (.int p3), .val (.long q4), .second, .val (.long (4503599627370496 : Int64)), .second, .val (.long v2), .second, .val (.int v4), .val (.long v6), .second, .val (.ref b7), .val (.long v27), .second, .val (.long v30), .second, .val (.long v32), .second, .val (.long v33), .second, .val (.int v35), .val (.int v37)] [(.int (1 : Int32))])) _
    exact retN X40 hx (t := .boolean) Bd.returns (by simp) (hb hby at_210) hr
  · show Q0 Z q1 p2 p3 q4 sF kF h0 n0 _ T40.heap _
    rw [ehq40]
    exact ⟨rfl, N40⟩
set_option maxRecDepth 65536 in
set_option maxHeartbeats 40000000 in
theorem comes_1 {Post : Tables → Env → Array Value → State → Outcome → State → Prop} (hpost : ∀ tb e args s v u, (limb_1_1.after args s (.returned v) u = true ∧ limb_1_2.after args s (.returned v) u = true ∧ True) → FrameEnd s (.returned v) u (Jvm.fieldLocs frame_1_writes args s ++ Jvm.arrayLocs frame_1_arrays args s ++ Jvm.staticLocs frame_1_statics s) 16 128 → Post tb e args s (.returned v) u) :
    ArmFor flags0 classFile x code maxLocals ret World_1 tables_1 room_1 Calls_1 rest_1 Pre_1 Post := by
  intro l hfl _ _ p e ha hc hk s m args below hf hA hF happ hP
  obtain ⟨hcalls, hrest, hpre⟩ := hP
  obtain ⟨-, -, -, hnamed, -, -, -, hat⟩ := (Spec.applies_iff hf).mp happ
  obtain ⟨hg, hn⟩ := and_e (Cond.before_iff.mp (show (Jvm.Cond.and given_1 narrow_1).before args s = true from hpre))
  obtain ⟨k0, g0⟩ := and_e hg
  obtain ⟨k1, g1⟩ := and_e g0
  obtain ⟨k2, g2⟩ := and_e g1
  obtain ⟨k3, g3⟩ := and_e g2
  obtain ⟨w0, w1, w2, w3, rfl⟩ : ∃ w0 w1 w2 w3 : Value, args = #[w0, w1, w2, w3] := by
    have hs : args.size = 4 := by simpa [Cond.value, given_1] using k0
    obtain ⟨L⟩ := args
    match L, hs with
    | [w0, w1, w2, w3], _ => exact ⟨w0, w1, w2, w3, rfl⟩
  have hw := fun d (hd : d ∈ tables_1) => atoms_spec (ws := Jvm.Cond.code x code maxLocals ret :: tables_1) hat d (List.mem_cons_of_mem _ hd)
  have hfit : Fit s := fun {y c} hc i hi => by
    obtain ⟨ha, rfl⟩ := Array.getElem?_eq_some_iff.mp hc
    have q := List.all_eq_true.mp ((Array.all_eq_true_iff_forall_mem.mp hF) _ (Array.getElem_mem ha)) i (List.mem_range.mpr hi)
    simpa [Array.getElem?_eq_getElem hi] using q
  obtain ⟨i0, ei0⟩ := isL_v k1
  obtain rfl : w0 = (.long i0) := Option.some.inj ei0
  obtain ⟨i1, ei1⟩ := is_v k2
  obtain rfl : w1 = (.int i1) := Option.some.inj ei1
  obtain ⟨i2, ei2⟩ := is_v k3
  obtain rfl : w2 = (.int i2) := Option.some.inj ei2
  obtain ⟨i3, ei3⟩ := isL_v g3
  obtain rfl : w3 = (.long i3) := Option.some.inj ei3
  obtain ⟨m0, hn1⟩ := and_e hn
  obtain ⟨m1, hn2⟩ := and_e hn1
  obtain ⟨m2, hn3⟩ := and_e hn2
  obtain ⟨m3, hn4⟩ := and_e hn3
  obtain ⟨m4, hn5⟩ := and_e hn4
  obtain ⟨m5, hn6⟩ := and_e hn5
  obtain ⟨m6, hn7⟩ := and_e hn6
  obtain ⟨m7, hn8⟩ := and_e hn7
  obtain ⟨m8, hn9⟩ := and_e hn8
  obtain ⟨m9, hn10⟩ := and_e hn9
  obtain ⟨m10, hn11⟩ := and_e hn10
  obtain ⟨m11, hn12⟩ := and_e hn11
  obtain ⟨m12, hn13⟩ := and_e hn12
  obtain ⟨m13, hn14⟩ := and_e hn13
  obtain ⟨m14, hn15⟩ := and_e hn14
  obtain ⟨m15, hn16⟩ := and_e hn15
  obtain ⟨m16, hn17⟩ := and_e hn16
  obtain ⟨m17, hn18⟩ := and_e hn17
  obtain ⟨m18, hn19⟩ := and_e hn18
  obtain ⟨m19, hn20⟩ := and_e hn19
  obtain ⟨m20, hn21⟩ := and_e hn20
  obtain ⟨m21, hn22⟩ := and_e hn21
  obtain ⟨m22, hn23⟩ := and_e hn22
  obtain ⟨m23, hn24⟩ := and_e hn23
  obtain ⟨m24, hn25⟩ := and_e hn24
  obtain ⟨m25, hn26⟩ := and_e hn25
  obtain ⟨m26, hn27⟩ := and_e hn26
  obtain ⟨m27, hn28⟩ := and_e hn27
  obtain ⟨m28, hn29⟩ := and_e hn28
  have m29 := hn29
  obtain ⟨sF, xF⟩ := arr_v m0
  have SF := Sta.start xF (Or.inr ⟨(hw _ (List.mem_of_getElem? (i := 3) rfl)), (hw _ (List.mem_of_getElem? (i := 31) rfl))⟩)
  obtain ⟨clF, AF⟩ := Arr.start xF m0
  have aF : s.arrayAt? sF = some clF := Arr.fin (State.Warmed39.refl s).alike AF
  have lF := eqv_i (Term.int_eval (28 : Int32)) m1
  have bF : clF.slots.size < 2 ^ 31 := own_len xF aF lF
  have zF : clF.slots.size.toInt32 = (28 : Int32) := by
    rw [len_f xF aF bF] at lF
    exact Value.int.inj (Option.some.inj lF)
  have q0 : clF.slots[0]? = some (.long (1 : Int64)) := (elem_f xF (Term.int_eval (0 : Int32)) aF (by decide)).symm.trans (eqv_l rfl m2)
  have q1 : clF.slots[1]? = some (.long (5 : Int64)) := (elem_f xF (Term.int_eval (1 : Int32)) aF (by decide)).symm.trans (eqv_l rfl m3)
  have q2 : clF.slots[2]? = some (.long (25 : Int64)) := (elem_f xF (Term.int_eval (2 : Int32)) aF (by decide)).symm.trans (eqv_l rfl m4)
  have q3 : clF.slots[3]? = some (.long (125 : Int64)) := (elem_f xF (Term.int_eval (3 : Int32)) aF (by decide)).symm.trans (eqv_l rfl m5)
  have q4 : clF.slots[4]? = some (.long (625 : Int64)) := (elem_f xF (Term.int_eval (4 : Int32)) aF (by decide)).symm.trans (eqv_l rfl m6)
  have q5 : clF.slots[5]? = some (.long (3125 : Int64)) := (elem_f xF (Term.int_eval (5 : Int32)) aF (by decide)).symm.trans (eqv_l rfl m7)
  have q6 : clF.slots[6]? = some (.long (15625 : Int64)) := (elem_f xF (Term.int_eval (6 : Int32)) aF (by decide)).symm.trans (eqv_l rfl m8)
  have q7 : clF.slots[7]? = some (.long (78125 : Int64)) := (elem_f xF (Term.int_eval (7 : Int32)) aF (by decide)).symm.trans (eqv_l rfl m9)
  have q8 : clF.slots[8]? = some (.long (390625 : Int64)) := (elem_f xF (Term.int_eval (8 : Int32)) aF (by decide)).symm.trans (eqv_l rfl m10)
  have q9 : clF.slots[9]? = some (.long (1953125 : Int64)) := (elem_f xF (Term.int_eval (9 : Int32)) aF (by decide)).symm.trans (eqv_l rfl m11)
  have q10 : clF.slots[10]? = some (.long (9765625 : Int64)) := (elem_f xF (Term.int_eval (10 : Int32)) aF (by decide)).symm.trans (eqv_l rfl m12)
  have q11 : clF.slots[11]? = some (.long (48828125 : Int64)) := (elem_f xF (Term.int_eval (11 : Int32)) aF (by decide)).symm.trans (eqv_l rfl m13)
  have q12 : clF.slots[12]? = some (.long (244140625 : Int64)) := (elem_f xF (Term.int_eval (12 : Int32)) aF (by decide)).symm.trans (eqv_l rfl m14)
  have q13 : clF.slots[13]? = some (.long (1220703125 : Int64)) := (elem_f xF (Term.int_eval (13 : Int32)) aF (by decide)).symm.trans (eqv_l rfl m15)
  have q14 : clF.slots[14]? = some (.long (6103515625 : Int64)) := (elem_f xF (Term.int_eval (14 : Int32)) aF (by decide)).symm.trans (eqv_l rfl m16)
  have q15 : clF.slots[15]? = some (.long (30517578125 : Int64)) := (elem_f xF (Term.int_eval (15 : Int32)) aF (by decide)).symm.trans (eqv_l rfl m17)
  have q16 : clF.slots[16]? = some (.long (152587890625 : Int64)) := (elem_f xF (Term.int_eval (16 : Int32)) aF (by decide)).symm.trans (eqv_l rfl m18)
  have q17 : clF.slots[17]? = some (.long (762939453125 : Int64)) := (elem_f xF (Term.int_eval (17 : Int32)) aF (by decide)).symm.trans (eqv_l rfl m19)
  have q18 : clF.slots[18]? = some (.long (3814697265625 : Int64)) := (elem_f xF (Term.int_eval (18 : Int32)) aF (by decide)).symm.trans (eqv_l rfl m20)
  have q19 : clF.slots[19]? = some (.long (19073486328125 : Int64)) := (elem_f xF (Term.int_eval (19 : Int32)) aF (by decide)).symm.trans (eqv_l rfl m21)
  have q20 : clF.slots[20]? = some (.long (95367431640625 : Int64)) := (elem_f xF (Term.int_eval (20 : Int32)) aF (by decide)).symm.trans (eqv_l rfl m22)
  have q21 : clF.slots[21]? = some (.long (476837158203125 : Int64)) := (elem_f xF (Term.int_eval (21 : Int32)) aF (by decide)).symm.trans (eqv_l rfl m23)
  have q22 : clF.slots[22]? = some (.long (2384185791015625 : Int64)) := (elem_f xF (Term.int_eval (22 : Int32)) aF (by decide)).symm.trans (eqv_l rfl m24)
  have q23 : clF.slots[23]? = some (.long (11920928955078125 : Int64)) := (elem_f xF (Term.int_eval (23 : Int32)) aF (by decide)).symm.trans (eqv_l rfl m25)
  have q24 : clF.slots[24]? = some (.long (59604644775390625 : Int64)) := (elem_f xF (Term.int_eval (24 : Int32)) aF (by decide)).symm.trans (eqv_l rfl m26)
  have q25 : clF.slots[25]? = some (.long (298023223876953125 : Int64)) := (elem_f xF (Term.int_eval (25 : Int32)) aF (by decide)).symm.trans (eqv_l rfl m27)
  have q26 : clF.slots[26]? = some (.long (1490116119384765625 : Int64)) := (elem_f xF (Term.int_eval (26 : Int32)) aF (by decide)).symm.trans (eqv_l rfl m28)
  have q27 : clF.slots[27]? = some (.long (7450580596923828125 : Int64)) := (elem_f xF (Term.int_eval (27 : Int32)) aF (by decide)).symm.trans (eqv_l rfl m29)
  have VF : Arv s s.heap sF clF.cls .long (28 : Int32) [(.long (1 : Int64)), (.long (5 : Int64)), (.long (25 : Int64)), (.long (125 : Int64)), (.long (625 : Int64)), (.long (3125 : Int64)), (.long (15625 : Int64)), (.long (78125 : Int64)), (.long (390625 : Int64)), (.long (1953125 : Int64)), (.long (9765625 : Int64)), (.long (48828125 : Int64)), (.long (244140625 : Int64)), (.long (1220703125 : Int64)), (.long (6103515625 : Int64)), (.long (30517578125 : Int64)), (.long (152587890625 : Int64)), (.long (762939453125 : Int64)), (.long (3814697265625 : Int64)), (.long (19073486328125 : Int64)), (.long (95367431640625 : Int64)), (.long (476837158203125 : Int64)), (.long (2384185791015625 : Int64)), (.long (11920928955078125 : Int64)), (.long (59604644775390625 : Int64)), (.long (298023223876953125 : Int64)), (.long (1490116119384765625 : Int64)), (.long (7450580596923828125 : Int64))] (.long (0 : Int64)) := Arv.start hfit AF bF zF (by decide) (by decide) ⟨q0, q1, q2, q3, q4, q5, q6, q7, q8, q9, q10, q11, q12, q13, q14, q15, q16, q17, q18, q19, q20, q21, q22, q23, q24, q25, q26, q27, trivial⟩
  obtain ⟨n, o, h1, h2, h3, _, L, rfl, ⟨rfl, N⟩, hq⟩ := rm0 l s _ hw tables_1 i0 i1 i2 i3 sF clF.cls s.heap s.heap.size (Nat.le_refl _) SF VF p e ha hc hk s m _ below hf ((Spec.applies_iff_loose hf).mp happ).1 ⟨rfl, State.Warmed39.refl s, rfl⟩ trivial
  refine ⟨n, _, h1, h2, h3, hpost _ _ _ _ _ _ ⟨Cond.after_iff.mpr rfl, Cond.after_iff.mpr (eq_i res_at (Term.int_eval (1)) rfl), trivial⟩ ⟨hq.1, hq.2.1, (hq.2.2.sift fun y hy => Or.inr (N y hy)).mono (by decide) (by decide)⟩⟩
theorem main_1_1 : Claimed_1_1 := comes_1 fun _ _ _ _ _ _ h hF => ⟨h.1, hF⟩
theorem main_1_2 : Claimed_1_2 := comes_1 fun _ _ _ _ _ _ h hF => ⟨h.2.1, hF⟩
end Jvm.Pilot.@@N@@
namespace Jvm.Pilot.@@N@@
open Jvm Jvm.ClassFile Sem Op Lib Jvm.Free Jvm.Stand Jvm.Pilot.@@N@@.Jvm.D
/-! MADE BY PROGRAM (witnessworld.py) out of the Statement's table words and the real class files: 17 classes; the members and pool entries that the words name. The judged class is class 1, her method 1. -/
namespace start1
open Jvm.ClassFile
def u (s : String) : CpInfo := .utf8 (stringToUtf16 s)
/-- a pool by its gaps: so many unusable entries, then the entry; so many at the end -/
def gap : Nat → List CpInfo → List CpInfo
  | 0, r => r
  | n + 1, r => .unusable :: gap n r
def poolList (es : List (Nat × CpInfo)) (last : Nat) : List CpInfo := es.foldr (fun e r => gap e.1 (e.2 :: r)) (gap last [])
def pool (es : List (Nat × CpInfo)) (last : Nat) : Array CpInfo := ⟨poolList es last⟩
def fileOf (pool : Array CpInfo) (this : Nat) (attrs : Array Attribute := #[]) (ms : Array MethodInfo := #[]) (fl : Nat := 33) (sup : Nat := 0) (ifs : Array Nat := #[]) (fds : Array FieldInfo := #[]) : ClassFile where
  minorVersion := 0
  majorVersion := 65
  constantPool := pool
  accessFlags := fl
  thisClass := this
  superClass := sup
  interfaces := ifs
  fields := fds
  methods := ms
  attributes := attrs
def plain (name : String) (sup : Option ClassId) : Class where
  name := name
  kind := .ordinary
  loader := none
  accessFlags := 33
  super := sup
  interfaces := #[]
  cf := none
  fields := #[]
  methods := #[]
  instanceTypes := #[]
  staticTypes := #[]
  resolved := #[]
  callSites := []
  init := .initialized
  statics := none
  mirror := none

def pool0 : Array CpInfo := pool [(5, u "<init>"), (0, u "()V"), (1, .class_ 10), (1, u "java/lang/Object")] 113

def k0c0 : Code := { maxStack := 0, maxLocals := 1, code := object_method_1_code, exceptionTable := #[], attributes := #[] }
def k0m0 : Method := { name := "<init>", desc := "()V", sig := { parameters := [], returnType := none }, accessFlags := 1, code := some k0c0 }
/-- java/lang/Object -/
def k0 : Class := { plain "java/lang/Object" none with
  accessFlags := 33
  interfaces := #[]
  cf := some (fileOf pool0 8 #[] #[{ accessFlags := 1, nameIndex := 5, descriptorIndex := 6, attributes := #[] }] 33 0 #[] #[])
  fields := #[]
  methods := #[k0m0]
  instanceTypes := #[]
  staticTypes := #[]
  resolved := Array.replicate 124 none
  statics := none }

def pool1 : Array CpInfo := pool [(2, .class_ 4), (1, u "java/lang/Object"), (0, u "<init>"), (0, u "()V"), (0, .long 4503599627370496), (1, .class_ 10), (0, u "com/example/partwise/partwise/storage/DecimalRange"), (0, .methodref 9 12), (0, .nameAndType 5 13), (0, u "(DI)V"), (0, .long 256), (1, .long 2305843009213693951), (1, .long 4), (1, .methodref 9 21), (0, .nameAndType 22 23), (0, u "side"), (0, u "(J)I"), (0, .class_ 25), (0, u "com/example/partwise/partwise/storage/DecimalRangeSidePinLaw"), (2, u "law"), (0, u "(JIIJ)Z")] 3

def k1m0 : Method := { name := "<init>", desc := "()V", sig := { parameters := [], returnType := none }, accessFlags := 1, code := none }
def k1c1 : Code := { maxStack := 8, maxLocals := 24, code := code, exceptionTable := #[], attributes := #[] }
def k1m1 : Method := { name := "law", desc := "(JIIJ)Z", sig := { parameters := [.long, .int, .int, .long], returnType := some .boolean }, accessFlags := 9, code := some k1c1 }
/-- com/example/partwise/partwise/storage/DecimalRangeSidePinLaw -/
def k1 : Class := { plain "com/example/partwise/partwise/storage/DecimalRangeSidePinLaw" (some 0) with
  accessFlags := 49
  interfaces := #[]
  cf := some (fileOf pool1 24 #[] #[{ accessFlags := 1, nameIndex := 5, descriptorIndex := 6, attributes := #[] }, { accessFlags := 9, nameIndex := 28, descriptorIndex := 29, attributes := #[] }] 49 2 #[] #[])
  fields := #[]
  methods := #[k1m0, k1m1]
  instanceTypes := #[]
  staticTypes := #[]
  resolved := Array.replicate 33 none
  statics := none }

def pool2 : Array CpInfo := pool [(1, .class_ 2), (0, u "com/example/partwise/partwise/storage/DecimalRange"), (0, .methodref 4 5), (0, .class_ 6), (0, .nameAndType 7 8), (0, u "java/lang/Object"), (0, u "<init>"), (0, u "()V"), (0, .methodref 1 10), (0, .nameAndType 11 12), (0, u "significand"), (0, u "(D)J"), (0, .methodref 1 14), (0, .nameAndType 15 16), (0, u "twos"), (0, u "(D)I"), (0, .long 4503599627370496), (1, .long 4), (1, .methodref 1 22), (0, .nameAndType 23 24), (0, u "twiceUnits"), (0, u "(JII)J"), (0, .long 2), (1, .fieldref 1 28), (0, .nameAndType 29 30), (0, u "twiceBelow"), (0, u "J"), (0, .fieldref 1 32), (0, .nameAndType 33 30), (0, u "twiceAbove"), (0, .fieldref 1 35), (0, .nameAndType 36 37), (0, u "halfwayIncluded"), (0, u "Z"), (2, u "side"), (0, u "(J)I"), (14, .class_ 58), (1, u "java/lang/Math"), (4, u "TENS"), (0, u "[D"), (4, u "(DI)V"), (9, .fieldref 1 80), (0, .nameAndType 81 82), (0, u "FIVES"), (0, u "[J"), (0, .methodref 56 84), (0, .nameAndType 85 86), (0, u "multiplyHigh"), (0, u "(JJ)J"), (12, u "Ljava/math/BigInteger;"), (2, u "FIVE"), (22, .methodref 126 127), (0, .class_ 128), (0, .nameAndType 129 12), (0, u "java/lang/Double"), (0, u "doubleToRawLongBits"), (0, .long 4503599627370495), (1, .methodref 56 133), (0, .nameAndType 134 135), (0, u "max"), (0, u "(II)I"), (4, u "LONG_FIVES"), (0, u "I"), (2, u "EXACT_DIGITS"), (0, u "FRACTION_BITS"), (1, u "FRACTION"), (0, u "HIDDEN_BIT"), (0, u "LEAST_TWOS")] 14

def k2c0 : Code := { maxStack := 5, maxLocals := 7, code := prog_103_method_1_code, exceptionTable := #[], attributes := #[] }
def k2m0 : Method := { name := "<init>", desc := "(DI)V", sig := { parameters := [.double, .int], returnType := none }, accessFlags := 0, code := some k2c0 }
def k2c1 : Code := { maxStack := 4, maxLocals := 5, code := prog_103_method_3_code, exceptionTable := #[], attributes := #[] }
def k2m1 : Method := { name := "side", desc := "(J)I", sig := { parameters := [.long], returnType := some .int }, accessFlags := 0, code := some k2c1 }
def k2c2 : Code := { maxStack := 6, maxLocals := 13, code := prog_103_method_7_code, exceptionTable := #[], attributes := #[] }
def k2m2 : Method := { name := "twiceUnits", desc := "(JII)J", sig := { parameters := [.long, .int, .int], returnType := some .long }, accessFlags := 10, code := some k2c2 }
def k2c3 : Code := { maxStack := 4, maxLocals := 4, code := prog_103_method_8_code, exceptionTable := #[], attributes := #[] }
def k2m3 : Method := { name := "significand", desc := "(D)J", sig := { parameters := [.double], returnType := some .long }, accessFlags := 10, code := some k2c3 }
def k2c4 : Code := { maxStack := 3, maxLocals := 3, code := prog_103_method_9_code, exceptionTable := #[], attributes := #[] }
def k2m4 : Method := { name := "twos", desc := "(D)I", sig := { parameters := [.double], returnType := some .int }, accessFlags := 10, code := some k2c4 }
/-- com/example/partwise/partwise/storage/DecimalRange -/
def k2 : Class := { plain "com/example/partwise/partwise/storage/DecimalRange" (some 0) with
  accessFlags := 48
  interfaces := #[]
  cf := some (fileOf pool2 1 #[] #[{ accessFlags := 0, nameIndex := 7, descriptorIndex := 69, attributes := #[] }, { accessFlags := 0, nameIndex := 40, descriptorIndex := 41, attributes := #[] }, { accessFlags := 10, nameIndex := 23, descriptorIndex := 24, attributes := #[] }, { accessFlags := 10, nameIndex := 11, descriptorIndex := 12, attributes := #[] }, { accessFlags := 10, nameIndex := 15, descriptorIndex := 16, attributes := #[] }] 48 4 #[] #[{ accessFlags := 26, nameIndex := 140, descriptorIndex := 141, attributes := #[] }, { accessFlags := 26, nameIndex := 81, descriptorIndex := 82, attributes := #[] }, { accessFlags := 26, nameIndex := 63, descriptorIndex := 64, attributes := #[] }, { accessFlags := 26, nameIndex := 144, descriptorIndex := 30, attributes := #[] }, { accessFlags := 26, nameIndex := 102, descriptorIndex := 99, attributes := #[] }, { accessFlags := 26, nameIndex := 145, descriptorIndex := 141, attributes := #[] }, { accessFlags := 26, nameIndex := 147, descriptorIndex := 30, attributes := #[] }, { accessFlags := 26, nameIndex := 148, descriptorIndex := 30, attributes := #[] }, { accessFlags := 26, nameIndex := 149, descriptorIndex := 141, attributes := #[] }, { accessFlags := 18, nameIndex := 29, descriptorIndex := 30, attributes := #[] }, { accessFlags := 18, nameIndex := 33, descriptorIndex := 30, attributes := #[] }, { accessFlags := 18, nameIndex := 36, descriptorIndex := 37, attributes := #[] }])
  fields := #[{ name := "LONG_FIVES", type := .int, accessFlags := 26, slot := 0, constantValue := 0 }, { name := "FIVES", type := (.array .long), accessFlags := 26, slot := 1, constantValue := 0 }, { name := "TENS", type := (.array .double), accessFlags := 26, slot := 2, constantValue := 0 }, { name := "EXACT_DIGITS", type := .long, accessFlags := 26, slot := 3, constantValue := 0 }, { name := "FIVE", type := (.object "java/math/BigInteger"), accessFlags := 26, slot := 4, constantValue := 0 }, { name := "FRACTION_BITS", type := .int, accessFlags := 26, slot := 5, constantValue := 0 }, { name := "FRACTION", type := .long, accessFlags := 26, slot := 6, constantValue := 0 }, { name := "HIDDEN_BIT", type := .long, accessFlags := 26, slot := 7, constantValue := 0 }, { name := "LEAST_TWOS", type := .int, accessFlags := 26, slot := 8, constantValue := 0 }, { name := "twiceBelow", type := .long, accessFlags := 18, slot := 0, constantValue := 0 }, { name := "twiceAbove", type := .long, accessFlags := 18, slot := 1, constantValue := 0 }, { name := "halfwayIncluded", type := .boolean, accessFlags := 18, slot := 2, constantValue := 0 }]
  methods := #[k2m0, k2m1, k2m2, k2m3, k2m4]
  instanceTypes := #[.long, .long, .boolean]
  staticTypes := #[.int, (.array .long), (.array .double), .long, (.object "java/math/BigInteger"), .int, .long, .long, .int]
  resolved := Array.replicate 164 none
  statics := some 0 }

def pool3 : Array CpInfo := pool [(1, .class_ 2), (0, u "java/io/Serializable"), (0, .class_ 4), (0, u "java/lang/Object")] 2

/-- java/io/Serializable -/
def k3 : Class := { plain "java/io/Serializable" (some 0) with
  accessFlags := 1537
  interfaces := #[]
  cf := some (fileOf pool3 1 #[] #[] 1537 3 #[] #[])
  fields := #[]
  methods := #[]
  instanceTypes := #[]
  staticTypes := #[]
  resolved := Array.replicate 7 none
  statics := none }

def pool4 : Array CpInfo := pool [(2, .class_ 4), (1, u "java/lang/Object"), (0, u "<init>"), (0, u "()V"), (1, .class_ 10), (1, u "java/lang/Number"), (2, .class_ 14), (0, u "java/io/Serializable"), (0, u "serialVersionUID"), (0, u "J")] 20

def k4m0 : Method := { name := "<init>", desc := "()V", sig := { parameters := [], returnType := none }, accessFlags := 1, code := none }
/-- java/lang/Number -/
def k4 : Class := { plain "java/lang/Number" (some 0) with
  accessFlags := 1057
  interfaces := #[3]
  cf := some (fileOf pool4 8 #[] #[{ accessFlags := 1, nameIndex := 5, descriptorIndex := 6, attributes := #[] }] 1057 2 #[13] #[{ accessFlags := 26, nameIndex := 15, descriptorIndex := 16, attributes := #[] }])
  fields := #[{ name := "serialVersionUID", type := .long, accessFlags := 26, slot := 0, constantValue := 0 }]
  methods := #[k4m0]
  instanceTypes := #[]
  staticTypes := #[.long]
  resolved := Array.replicate 37 none
  statics := none }

def pool5 : Array CpInfo := pool [(1, .class_ 2), (0, u "java/lang/Comparable"), (0, .class_ 4), (0, u "java/lang/Object")] 7

/-- java/lang/Comparable -/
def k5 : Class := { plain "java/lang/Comparable" (some 0) with
  accessFlags := 1537
  interfaces := #[]
  cf := some (fileOf pool5 1 #[] #[] 1537 3 #[] #[])
  fields := #[]
  methods := #[]
  instanceTypes := #[]
  staticTypes := #[]
  resolved := Array.replicate 12 none
  statics := none }

def pool6 : Array CpInfo := pool [(1, .class_ 2), (0, u "java/lang/constant/Constable"), (0, .class_ 4), (0, u "java/lang/Object")] 6

/-- java/lang/constant/Constable -/
def k6 : Class := { plain "java/lang/constant/Constable" (some 0) with
  accessFlags := 1537
  interfaces := #[]
  cf := some (fileOf pool6 1 #[] #[] 1537 3 #[] #[])
  fields := #[]
  methods := #[]
  instanceTypes := #[]
  staticTypes := #[]
  resolved := Array.replicate 11 none
  statics := none }

def pool7 : Array CpInfo := pool [(1, .class_ 2), (0, u "java/lang/constant/ConstantDesc"), (0, .class_ 4), (0, u "java/lang/Object")] 32

/-- java/lang/constant/ConstantDesc -/
def k7 : Class := { plain "java/lang/constant/ConstantDesc" (some 0) with
  accessFlags := 1537
  interfaces := #[]
  cf := some (fileOf pool7 1 #[] #[] 1537 3 #[] #[])
  fields := #[]
  methods := #[]
  instanceTypes := #[]
  staticTypes := #[]
  resolved := Array.replicate 37 none
  statics := none }

def pool8 : Array CpInfo := pool [(1, .class_ 2), (0, u "java/lang/Double"), (46, u "(D)J"), (64, .class_ 116), (1, u "java/lang/Number"), (3, u "value"), (0, u "D"), (14, u "doubleToRawLongBits"), (36, u "TYPE"), (0, u "Ljava/lang/Class;"), (0, .class_ 176), (0, u "java/lang/Comparable"), (0, .class_ 178), (0, u "java/lang/constant/Constable"), (0, .class_ 180), (0, u "java/lang/constant/ConstantDesc"), (0, u "POSITIVE_INFINITY"), (3, u "NEGATIVE_INFINITY"), (2, u "NaN"), (2, u "MAX_VALUE"), (0, u "MIN_NORMAL"), (0, u "MIN_VALUE"), (2, u "SIZE"), (0, u "I"), (1, u "PRECISION"), (1, u "MAX_EXPONENT"), (1, u "MIN_EXPONENT"), (1, u "BYTES"), (3, u "serialVersionUID"), (0, u "J")] 79

def k8m0 : Method := { name := "doubleToRawLongBits", desc := "(D)J", sig := { parameters := [.double], returnType := some .long }, accessFlags := 265, code := none }
/-- java/lang/Double -/
def k8 : Class := { plain "java/lang/Double" (some 4) with
  accessFlags := 49
  interfaces := #[5, 6, 7]
  cf := some (fileOf pool8 1 #[] #[{ accessFlags := 265, nameIndex := 136, descriptorIndex := 49, attributes := #[] }] 49 114 #[175, 177, 179] #[{ accessFlags := 25, nameIndex := 181, descriptorIndex := 121, attributes := #[] }, { accessFlags := 25, nameIndex := 185, descriptorIndex := 121, attributes := #[] }, { accessFlags := 25, nameIndex := 188, descriptorIndex := 121, attributes := #[] }, { accessFlags := 25, nameIndex := 191, descriptorIndex := 121, attributes := #[] }, { accessFlags := 25, nameIndex := 192, descriptorIndex := 121, attributes := #[] }, { accessFlags := 25, nameIndex := 193, descriptorIndex := 121, attributes := #[] }, { accessFlags := 25, nameIndex := 196, descriptorIndex := 197, attributes := #[] }, { accessFlags := 25, nameIndex := 199, descriptorIndex := 197, attributes := #[] }, { accessFlags := 25, nameIndex := 201, descriptorIndex := 197, attributes := #[] }, { accessFlags := 25, nameIndex := 203, descriptorIndex := 197, attributes := #[] }, { accessFlags := 25, nameIndex := 205, descriptorIndex := 197, attributes := #[] }, { accessFlags := 25, nameIndex := 173, descriptorIndex := 174, attributes := #[] }, { accessFlags := 18, nameIndex := 120, descriptorIndex := 121, attributes := #[] }, { accessFlags := 26, nameIndex := 209, descriptorIndex := 210, attributes := #[] }])
  fields := #[{ name := "POSITIVE_INFINITY", type := .double, accessFlags := 25, slot := 0, constantValue := 0 }, { name := "NEGATIVE_INFINITY", type := .double, accessFlags := 25, slot := 1, constantValue := 0 }, { name := "NaN", type := .double, accessFlags := 25, slot := 2, constantValue := 0 }, { name := "MAX_VALUE", type := .double, accessFlags := 25, slot := 3, constantValue := 0 }, { name := "MIN_NORMAL", type := .double, accessFlags := 25, slot := 4, constantValue := 0 }, { name := "MIN_VALUE", type := .double, accessFlags := 25, slot := 5, constantValue := 0 }, { name := "SIZE", type := .int, accessFlags := 25, slot := 6, constantValue := 0 }, { name := "PRECISION", type := .int, accessFlags := 25, slot := 7, constantValue := 0 }, { name := "MAX_EXPONENT", type := .int, accessFlags := 25, slot := 8, constantValue := 0 }, { name := "MIN_EXPONENT", type := .int, accessFlags := 25, slot := 9, constantValue := 0 }, { name := "BYTES", type := .int, accessFlags := 25, slot := 10, constantValue := 0 }, { name := "TYPE", type := (.object "java/lang/Class"), accessFlags := 25, slot := 11, constantValue := 0 }, { name := "value", type := .double, accessFlags := 18, slot := 0, constantValue := 0 }, { name := "serialVersionUID", type := .long, accessFlags := 26, slot := 12, constantValue := 0 }]
  methods := #[k8m0]
  instanceTypes := #[.double]
  staticTypes := #[.double, .double, .double, .double, .double, .double, .int, .int, .int, .int, .int, (.object "java/lang/Class"), .long]
  resolved := Array.replicate 290 none
  statics := none }

def pool9 : Array CpInfo := pool [(1, .class_ 2), (0, u "java/lang/Math"), (1, .class_ 6), (1, u "java/lang/Object"), (0, u "<init>"), (0, u "()V"), (89, .class_ 100), (1, u "java/lang/Math$RandomNumberGeneratorHolder"), (20, u "(JJ)J"), (16, .long 4294967295), (3, u "multiplyHigh"), (29, u "negativeZeroFloatBits"), (0, u "J"), (2, u "negativeZeroDoubleBits"), (21, u "max"), (46, u "$assertionsDisabled"), (0, u "Z"), (88, u "(II)I"), (2, u "twoToTheDoubleScaleDown"), (0, u "D"), (4, u "twoToTheDoubleScaleUp"), (9, u "E"), (3, u "PI"), (2, u "TAU"), (2, u "DEGREES_TO_RADIANS"), (0, u "RADIANS_TO_DEGREES")] 94

def k9m0 : Method := { name := "<init>", desc := "()V", sig := { parameters := [], returnType := none }, accessFlags := 2, code := none }
def k9c1 : Code := { maxStack := 6, maxLocals := 20, code := jdk_29_method_45_code, exceptionTable := #[], attributes := #[] }
def k9m1 : Method := { name := "multiplyHigh", desc := "(JJ)J", sig := { parameters := [.long, .long], returnType := some .long }, accessFlags := 9, code := some k9c1 }
def k9c2 : Code := { maxStack := 2, maxLocals := 2, code := jdk_29_method_65_code, exceptionTable := #[], attributes := #[] }
def k9m2 : Method := { name := "max", desc := "(II)I", sig := { parameters := [.int, .int], returnType := some .int }, accessFlags := 9, code := some k9c2 }
/-- java/lang/Math -/
def k9 : Class := { plain "java/lang/Math" (some 0) with
  accessFlags := 49
  interfaces := #[]
  cf := some (fileOf pool9 1 #[.nestMembers #[98]] #[{ accessFlags := 2, nameIndex := 7, descriptorIndex := 8, attributes := #[] }, { accessFlags := 9, nameIndex := 142, descriptorIndex := 121, attributes := #[] }, { accessFlags := 9, nameIndex := 198, descriptorIndex := 335, attributes := #[] }] 49 4 #[] #[{ accessFlags := 25, nameIndex := 354, descriptorIndex := 339, attributes := #[] }, { accessFlags := 25, nameIndex := 358, descriptorIndex := 339, attributes := #[] }, { accessFlags := 25, nameIndex := 361, descriptorIndex := 339, attributes := #[] }, { accessFlags := 26, nameIndex := 364, descriptorIndex := 339, attributes := #[] }, { accessFlags := 26, nameIndex := 365, descriptorIndex := 339, attributes := #[] }, { accessFlags := 26, nameIndex := 172, descriptorIndex := 173, attributes := #[] }, { accessFlags := 26, nameIndex := 176, descriptorIndex := 173, attributes := #[] }, { accessFlags := 8, nameIndex := 344, descriptorIndex := 339, attributes := #[] }, { accessFlags := 8, nameIndex := 338, descriptorIndex := 339, attributes := #[] }, { accessFlags := 4120, nameIndex := 245, descriptorIndex := 246, attributes := #[] }])
  fields := #[{ name := "E", type := .double, accessFlags := 25, slot := 0, constantValue := 0 }, { name := "PI", type := .double, accessFlags := 25, slot := 1, constantValue := 0 }, { name := "TAU", type := .double, accessFlags := 25, slot := 2, constantValue := 0 }, { name := "DEGREES_TO_RADIANS", type := .double, accessFlags := 26, slot := 3, constantValue := 0 }, { name := "RADIANS_TO_DEGREES", type := .double, accessFlags := 26, slot := 4, constantValue := 0 }, { name := "negativeZeroFloatBits", type := .long, accessFlags := 26, slot := 5, constantValue := 0 }, { name := "negativeZeroDoubleBits", type := .long, accessFlags := 26, slot := 6, constantValue := 0 }, { name := "twoToTheDoubleScaleUp", type := .double, accessFlags := 8, slot := 7, constantValue := 0 }, { name := "twoToTheDoubleScaleDown", type := .double, accessFlags := 8, slot := 8, constantValue := 0 }, { name := "$assertionsDisabled", type := .boolean, accessFlags := 4120, slot := 9, constantValue := 0 }]
  methods := #[k9m0, k9m1, k9m2]
  instanceTypes := #[]
  staticTypes := #[.double, .double, .double, .double, .double, .long, .long, .double, .double, .boolean]
  resolved := Array.replicate 460 none
  statics := none }

def pool10 : Array CpInfo := pool [(1, u "java/lang/Cloneable"), (0, .class_ 1), (0, u "java/lang/Object"), (0, .class_ 3)] 3

/-- java/lang/Cloneable -/
def k10 : Class := { plain "java/lang/Cloneable" (some 0) with
  accessFlags := 1537
  interfaces := #[]
  cf := some (fileOf pool10 2 #[] #[] 1537 4 #[] #[])
  fields := #[]
  methods := #[]
  instanceTypes := #[]
  staticTypes := #[]
  resolved := Array.replicate 8 none
  statics := none }

/-- the primitive byte -/
def k11 : Class := { plain "byte" none with kind := .primitive 'B', accessFlags := 0x411 }
/-- [B -/
def k12 : Class := { plain "[B" (some 0) with kind := .array 11 .byte, interfaces := #[10, 3], accessFlags := 1041 }

/-- the primitive int -/
def k13 : Class := { plain "int" none with kind := .primitive 'I', accessFlags := 0x411 }
/-- [I -/
def k14 : Class := { plain "[I" (some 0) with kind := .array 13 .int, interfaces := #[10, 3], accessFlags := 1041 }

/-- the primitive long -/
def k15 : Class := { plain "long" none with kind := .primitive 'J', accessFlags := 0x411 }
/-- [J -/
def k16 : Class := { plain "[J" (some 0) with kind := .array 15 .long, interfaces := #[10, 3], accessFlags := 1041 }

def heap : Heap := #[{ cls := 2, slots := #[.int 0, .ref 1, .null, .long 0, .null, .int 0, .long 0, .long 0, .int 0], vm := .statics 2 },
  { cls := 16, slots := #[.long 1, .long 5, .long 25, .long 125, .long 625, .long 3125, .long 15625, .long 78125, .long 390625, .long 1953125, .long 9765625, .long 48828125, .long 244140625, .long 1220703125, .long 6103515625, .long 30517578125, .long 152587890625, .long 762939453125, .long 3814697265625, .long 19073486328125, .long 95367431640625, .long 476837158203125, .long 2384185791015625, .long 11920928955078125, .long 59604644775390625, .long 298023223876953125, .long 1490116119384765625, .long 7450580596923828125], vm := .none }]
def classes : Array Class := #[k0, k1, k2, k3, k4, k5, k6, k7, k8, k9, k10, k11, k12, k13, k14, k15, k16]
def interned : List (Array UInt16 × Addr) := []
def slotsUsed : Nat := 37
def theMethod : MethodId := ⟨1, 1⟩
def args0 : Array Value := #[.long 5, .int 3, .int 6, .long 77]
def aboutOver (below : List Frame) : State where
  vm := { classes := classes, interned := interned.toArray }
  heap := heap
  slotsUsed := slotsUsed
  threads := #[{ frames := .invoking theMethod args0 :: below }]
def below0 : List Frame := [.native { method := ⟨0, 0⟩, args := #[] }]
def about1 : State := aboutOver below0
def p0 : Program := .bare "" "" ""
def e0 : Env := launch0.env 0 0 0
theorem w_frames : about1.frames = Frame.invoking theMethod args0 :: below0 := rfl
set_option maxRecDepth 65536 in
theorem w_args : argsFit about1.vm theMethod args0 = true := by decide +kernel
set_option maxRecDepth 65536 in
theorem w_heap : heapFits about1 = true := by decide +kernel
set_option maxRecDepth 65536 in
theorem w_runnable : about1.curStatus? = some .runnable := by decide +kernel
set_option maxRecDepth 65536 in
theorem w_alone : about1.alone = true := by decide +kernel
set_option maxRecDepth 65536 in
theorem w_named : about1.methodNamed? x = some theMethod := by decide +kernel
set_option maxRecDepth 65536 in
theorem w_hears : about1.hears theMethod below0 = true := by decide +kernel
set_option maxRecDepth 65536 in
theorem w_ripe : about1.ripe theMethod args0 below0 = true := by decide +kernel
theorem w_running : about1.status = .running := rfl
set_option maxRecDepth 65536 in
theorem w_room : about1.hasRoom e0.platform room_1 = true :=
  launch0.hasRoom_least _ room_1 (by decide +kernel) (by decide +kernel) (by decide +kernel) (by decide +kernel) (by decide +kernel) (by decide +kernel)
theorem allAtoms_all (ts : List Jvm.Cond) (a : Array Jvm.Value) (st : Jvm.State) : (allAtoms ts).before a st = ts.all (fun c => c.before a st) := by
  induction ts with
  | nil => rfl
  | cons c t ih =>
    show (Jvm.Cond.and c (allAtoms t)).before a st = _
    rw [Jvm.Cond.before_and, ih, List.all_cons]
def words1 : List Jvm.Cond := Jvm.Cond.code x code maxLocals ret :: tables_1
/-- a 'code' word, met by the world's own term for the bytes: nothing is compared byte by byte -/
theorem code_word {y : MethodName} {bytes : ByteArray} {mx : Nat} {rt : Option FieldType} {a : Array Value} {s : State} {m : MethodId} {meth : Method} {c : Code} (h1 : s.methodNamed? y = some m) (h2 : s.vm.method? m = some meth) (h3 : meth.code = some c) (h4 : c.code = bytes)
    (h5 : (c.maxLocals == mx && c.exceptionTable.isEmpty && decide (c.maxStack ≤ mostOperands) && decide (meth.sig.returnType = rt) && !meth.locks && decide (parseMethodDescriptor y.desc = some meth.sig)) = true) : (Jvm.Cond.code y bytes mx rt).before a s = true := by
  simp only [Bool.and_eq_true, beq_iff_eq, Bool.not_eq_true', decide_eq_true_eq] at h5
  obtain ⟨⟨⟨⟨⟨g1, g2⟩, g3⟩, g4⟩, g5⟩, g6⟩ := h5
  simp [Cond.before, Cond.holds, Cond.value, h1, h2, h3, h4, g1, g2, g3, g4, g5, g6]
def isCode : Jvm.Cond → Bool
  | .code _ _ _ _ => true
  | _ => false
theorem all_split {L : List Jvm.Cond} {P : Jvm.Cond → Bool} (h1 : L.all (fun c => isCode c || P c) = true) (h2 : ∀ c ∈ L.filter isCode, P c = true) : L.all P = true := by
  refine List.all_eq_true.mpr fun c hc => ?_
  have h := List.all_eq_true.mp h1 c hc
  rcases Bool.eq_false_or_eq_true (isCode c) with hi | hi
  · exact h2 c (List.mem_filter.mpr ⟨hc, hi⟩)
  · simpa [hi] using h
set_option maxRecDepth 65536 in
theorem w_c0 : (Jvm.Cond.code x code maxLocals ret).before args0 about1 = true := code_word (m := ⟨1, 1⟩) (meth := k1m1) (c := k1c1) (by decide +kernel) rfl rfl rfl (by decide +kernel)
set_option maxRecDepth 65536 in
theorem w_c1 : (Jvm.Cond.code ({ cls := "com/example/partwise/partwise/storage/DecimalRange", name := "<init>", desc := "(DI)V" } : Jvm.MethodName) prog_103_method_1_code (7 : Nat) (Option.none : Option Jvm.ClassFile.FieldType)).before args0 about1 = true := code_word (m := ⟨2, 0⟩) (meth := k2m0) (c := k2c0) (by decide +kernel) rfl rfl rfl (by decide +kernel)
set_option maxRecDepth 65536 in
theorem w_c2 : (Jvm.Cond.code ({ cls := "java/lang/Object", name := "<init>", desc := "()V" } : Jvm.MethodName) object_method_1_code (1 : Nat) (Option.none : Option Jvm.ClassFile.FieldType)).before args0 about1 = true := code_word (m := ⟨0, 0⟩) (meth := k0m0) (c := k0c0) (by decide +kernel) rfl rfl rfl (by decide +kernel)
set_option maxRecDepth 65536 in
theorem w_c3 : (Jvm.Cond.code ({ cls := "com/example/partwise/partwise/storage/DecimalRange", name := "significand", desc := "(D)J" } : Jvm.MethodName) prog_103_method_8_code (4 : Nat) (Option.some Jvm.ClassFile.FieldType.long)).before args0 about1 = true := code_word (m := ⟨2, 3⟩) (meth := k2m3) (c := k2c3) (by decide +kernel) rfl rfl rfl (by decide +kernel)
set_option maxRecDepth 65536 in
theorem w_c4 : (Jvm.Cond.code ({ cls := "com/example/partwise/partwise/storage/DecimalRange", name := "twos", desc := "(D)I" } : Jvm.MethodName) prog_103_method_9_code (3 : Nat) (Option.some Jvm.ClassFile.FieldType.int)).before args0 about1 = true := code_word (m := ⟨2, 4⟩) (meth := k2m4) (c := k2c4) (by decide +kernel) rfl rfl rfl (by decide +kernel)
set_option maxRecDepth 65536 in
theorem w_c5 : (Jvm.Cond.code ({ cls := "java/lang/Math", name := "max", desc := "(II)I" } : Jvm.MethodName) jdk_29_method_65_code (2 : Nat) (Option.some Jvm.ClassFile.FieldType.int)).before args0 about1 = true := code_word (m := ⟨9, 2⟩) (meth := k9m2) (c := k9c2) (by decide +kernel) rfl rfl rfl (by decide +kernel)
set_option maxRecDepth 65536 in
theorem w_c6 : (Jvm.Cond.code ({ cls := "com/example/partwise/partwise/storage/DecimalRange", name := "twiceUnits", desc := "(JII)J" } : Jvm.MethodName) prog_103_method_7_code (13 : Nat) (Option.some Jvm.ClassFile.FieldType.long)).before args0 about1 = true := code_word (m := ⟨2, 2⟩) (meth := k2m2) (c := k2c2) (by decide +kernel) rfl rfl rfl (by decide +kernel)
set_option maxRecDepth 65536 in
theorem w_c7 : (Jvm.Cond.code ({ cls := "java/lang/Math", name := "multiplyHigh", desc := "(JJ)J" } : Jvm.MethodName) jdk_29_method_45_code (20 : Nat) (Option.some Jvm.ClassFile.FieldType.long)).before args0 about1 = true := code_word (m := ⟨9, 1⟩) (meth := k9m1) (c := k9c1) (by decide +kernel) rfl rfl rfl (by decide +kernel)
set_option maxRecDepth 65536 in
theorem w_c8 : (Jvm.Cond.code ({ cls := "com/example/partwise/partwise/storage/DecimalRange", name := "side", desc := "(J)I" } : Jvm.MethodName) prog_103_method_3_code (5 : Nat) (Option.some Jvm.ClassFile.FieldType.int)).before args0 about1 = true := code_word (m := ⟨2, 1⟩) (meth := k2m1) (c := k2c1) (by decide +kernel) rfl rfl rfl (by decide +kernel)
def codes1 : List Jvm.Cond := [Jvm.Cond.code x code maxLocals ret, Jvm.Cond.code ({ cls := "com/example/partwise/partwise/storage/DecimalRange", name := "<init>", desc := "(DI)V" } : Jvm.MethodName) prog_103_method_1_code (7 : Nat) (Option.none : Option Jvm.ClassFile.FieldType), Jvm.Cond.code ({ cls := "java/lang/Object", name := "<init>", desc := "()V" } : Jvm.MethodName) object_method_1_code (1 : Nat) (Option.none : Option Jvm.ClassFile.FieldType), Jvm.Cond.code ({ cls := "com/example/partwise/partwise/storage/DecimalRange", name := "significand", desc := "(D)J" } : Jvm.MethodName) prog_103_method_8_code (4 : Nat) (Option.some Jvm.ClassFile.FieldType.long), Jvm.Cond.code ({ cls := "com/example/partwise/partwise/storage/DecimalRange", name := "twos", desc := "(D)I" } : Jvm.MethodName) prog_103_method_9_code (3 : Nat) (Option.some Jvm.ClassFile.FieldType.int), Jvm.Cond.code ({ cls := "java/lang/Math", name := "max", desc := "(II)I" } : Jvm.MethodName) jdk_29_method_65_code (2 : Nat) (Option.some Jvm.ClassFile.FieldType.int), Jvm.Cond.code ({ cls := "com/example/partwise/partwise/storage/DecimalRange", name := "twiceUnits", desc := "(JII)J" } : Jvm.MethodName) prog_103_method_7_code (13 : Nat) (Option.some Jvm.ClassFile.FieldType.long), Jvm.Cond.code ({ cls := "java/lang/Math", name := "multiplyHigh", desc := "(JJ)J" } : Jvm.MethodName) jdk_29_method_45_code (20 : Nat) (Option.some Jvm.ClassFile.FieldType.long), Jvm.Cond.code ({ cls := "com/example/partwise/partwise/storage/DecimalRange", name := "side", desc := "(J)I" } : Jvm.MethodName) prog_103_method_3_code (5 : Nat) (Option.some Jvm.ClassFile.FieldType.int)]
set_option maxRecDepth 65536 in
theorem codes_eq : words1.filter isCode = codes1 := rfl
theorem w_codes : ∀ c ∈ words1.filter isCode, c.before args0 about1 = true := by
  rw [codes_eq]
  intro c hc
  simp only [codes1, List.mem_cons, List.not_mem_nil, or_false] at hc
  rcases hc with rfl | rfl | rfl | rfl | rfl | rfl | rfl | rfl | rfl
  · exact w_c0
  · exact w_c1
  · exact w_c2
  · exact w_c3
  · exact w_c4
  · exact w_c5
  · exact w_c6
  · exact w_c7
  · exact w_c8
set_option maxRecDepth 65536 in
theorem w_t1 : (words1.take 24).all (fun c => isCode c || c.before args0 about1) = true := by decide +kernel
set_option maxRecDepth 65536 in
theorem w_t2 : ((words1.drop 24).take 24).all (fun c => isCode c || c.before args0 about1) = true := by decide +kernel
set_option maxRecDepth 65536 in
theorem w_t3 : ((words1.drop 24).drop 24).all (fun c => isCode c || c.before args0 about1) = true := by decide +kernel
theorem w_tables : (allAtoms (Jvm.Cond.code x code maxLocals ret :: tables_1)).before args0 about1 = true := by
  rw [allAtoms_all]
  show words1.all (fun c => c.before args0 about1) = true
  refine all_split ?_ w_codes
  rw [← List.take_append_drop 24 words1, List.all_append, w_t1, ← List.take_append_drop 24 (words1.drop 24), List.all_append, w_t2, w_t3]
  rfl
set_option maxRecDepth 65536 in
theorem w_case : (Jvm.Cond.and given_1 narrow_1).before args0 about1 = true := by decide +kernel
theorem w_applies : (headSpec (Jvm.Cond.code x code maxLocals ret :: tables_1) room_1).applies x e0.platform about1 = true :=
  (Spec.applies_iff w_frames).mpr ⟨w_running, w_runnable, w_alone, w_named, w_hears, w_ripe, w_room, w_tables⟩
theorem atStart : AtStart classFile x code maxLocals ret World_1 tables_1 room_1 Calls_1 rest_1 Pre_1 launch0 p0 e0 about1 theMethod args0 below0 :=
  ⟨lists_1, trivial, launch0.admits_env _ _ _, launch0.least_env, fairChoices_fair.cas, fairChoices_fair.clock, w_frames, w_args, w_heap, w_applies, trivial, trivial, w_case⟩
end start1
theorem witness_1 : WitnessClaimed_1 := ⟨start1.p0, start1.e0, start1.about1, start1.theMethod, start1.args0, start1.below0, start1.atStart⟩
end Jvm.Pilot.@@N@@
