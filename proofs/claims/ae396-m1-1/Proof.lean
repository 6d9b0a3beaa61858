import JvmDerived
import JvmDerived.Pilot.@@N@@Statement
import JvmDerived.Pilot.@@N@@Code
set_option linter.unusedVariables false
set_option linter.unusedSimpArgs false
@@BLOCK:NumsL.lean.txt@@
namespace Jvm.RoadKit
open Sem ClassFile Op Lib Jvm.Stand Jvm.Free Jvm.LawKit
section New
variable {p : Program} {l : Launch} {e : Env} {R : Room} {s : State} {m : MethodId} {args : Array Value} {below : List Frame} {meth : Method} {c : Code} {T : State} {locs : List Loc} {cells slots : Nat}
theorem retI (X : Stand p l e R s m args below meth c T locs cells slots) (hx : p.tables.exec = Jvm.exec) {pc : Nat} {Ls : Array Slot} {z : Int32} {rest : List Value} (hret : meth.sig.returnType = some .int) (hd : decode c.code pc = .ok (.ireturn, 1)) {fs : List Frame}
    (hl : ∀ (f : JFrame) (acts : List Action), f.method = m → f.locked = none → f.entered = [] → (doReturn e (T.setTop f) acts (some (.int z))).1 = T.setFrames fs) : Steps p.tables e below (T.setTop (mkF m pc Ls (.int z :: rest))) (T.setFrames fs) := by
  have hm' : T.vm.method? m = some meth := X.method'
  have hn : narrow .int (.int z) = .int z := rfl
  show Steps p.tables e below (T.setTop { method := m, pc := pc, locals := Ls, stack := _ :: rest, locked := none }) _
  jvm_step X.here [X.here.top, hx, hd, hm', hret, hn]
  first | (intro acts; rw [hl _ acts rfl rfl rfl]) | rw [hl _ _ rfl rfl rfl]
  exact Steps.refl _
theorem retD (X : Stand p l e R s m args below meth c T locs cells slots) (hx : p.tables.exec = Jvm.exec) {pc : Nat} {Ls : Array Slot} {z : UInt64} {rest : List Value} (hret : meth.sig.returnType = some .double) (hd : decode c.code pc = .ok (.dreturn, 1)) {fs : List Frame}
    (hl : ∀ (f : JFrame) (acts : List Action), f.method = m → f.locked = none → f.entered = [] → (doReturn e (T.setTop f) acts (some (.double z))).1 = T.setFrames fs) : Steps p.tables e below (T.setTop (mkF m pc Ls (.double z :: rest))) (T.setFrames fs) := by
  have hm' : T.vm.method? m = some meth := X.method'
  show Steps p.tables e below (T.setTop { method := m, pc := pc, locals := Ls, stack := _ :: rest, locked := none }) _
  jvm_step X.here [X.here.top, hx, hd, hm', hret]
  first | (intro acts; rw [hl _ acts rfl rfl rfl]) | rw [hl _ _ rfl rfl rfl]
  exact Steps.refl _
end New
end Jvm.RoadKit
namespace Jvm.Pilot.@@N@@
open Jvm Jvm.ClassFile Sem Op Lib Jvm.Free Jvm.Stand Jvm.LawKit Jvm.RoadKit Bundle Jvm.Pilot.@@N@@.Jvm.D
theorem jtlt {x y : Int64} (h : x < y) : ifCond.holds .lt (lcmpW x y) = true ∧ ifCond.holds .ge (lcmpW x y) = false ∧ ifCond.holds .gt (lcmpW y x) = true ∧ ifCond.holds .le (lcmpW y x) = false := by
  have h1 : ¬ y < x := by rw [Int64.lt_iff_toInt_lt] at h ⊢; omega
  have h2 : ¬ x = y := by rintro rfl; exact h1 h
  have h3 : ¬ y = x := fun q => h2 q.symm
  simp [ifCond.holds, lcmpW, h, h1, h2, h3]
theorem jflt {x y : Int64} (h : ¬ x < y) : ifCond.holds .lt (lcmpW x y) = false ∧ ifCond.holds .ge (lcmpW x y) = true ∧ ifCond.holds .gt (lcmpW y x) = false ∧ ifCond.holds .le (lcmpW y x) = true := by
  by_cases h2 : x = y
  · subst h2; simp [ifCond.holds, lcmpW, h]
  · have h1 : y < x := by rw [Int64.lt_iff_toInt_lt] at h ⊢; rw [← Int64.toInt_inj] at h2; omega
    have h3 : ¬ y = x := fun q => h2 q.symm
    simp [ifCond.holds, lcmpW, h, h1, h2, h3]
theorem jteq {x y : Int64} (h : x = y) : ifCond.holds .eq (lcmpW x y) = true ∧ ifCond.holds .ne (lcmpW x y) = false := by
  subst h
  have h1 : ¬ x < x := by rw [Int64.lt_iff_toInt_lt]; omega
  simp [ifCond.holds, lcmpW, h1]
theorem jfeq {x y : Int64} (h : ¬ x = y) : ifCond.holds .eq (lcmpW x y) = false ∧ ifCond.holds .ne (lcmpW x y) = true := by
  by_cases h1 : y < x <;> simp [ifCond.holds, lcmpW, h, h1]
theorem own_sta_keep {Z : State} {h h' : Heap} {C n d : String} {v : Value} {ws : List Addr} (F : Sta Z h C n d v) (K : Keep h h' ws) (q : ∀ x ∈ ws, ∃ c : Cell, h[x]? = some c ∧ c.vm.isStatics = false) : Sta Z h' C n d v := by
  obtain ⟨cf, i, k, f, st, cell, h1, h2, h3, h4, h5, h6, h7⟩ := F
  refine ⟨cf, i, k, f, st, cell, h1, h2, h3, h4, K.2.1 st cell h5 (fun hm => ?_), h6, h7⟩
  obtain ⟨c, e1, e2⟩ := q st hm
  rw [h5] at e1; cases e1; rw [h6] at e2; cases e2
theorem own_nostat {Z : State} {h : Heap} {a : Addr} {C : String} (E : Exa Z h a C) : ∃ c : Cell, h[a]? = some c ∧ c.vm.isStatics = false := by
  obtain ⟨cell, k, h1, -, -, h4, -⟩ := E
  exact ⟨cell, h1, h4⟩
def own_shift (j : Int) : FP.Core.Datum → FP.Core.Datum
  | .nan => .nan
  | .inf s => .inf s
  | .fin s c q => .fin s c (q + j)
def own_rep (K : Nat) : Prop := ∃ m i : Nat, K = m * 2 ^ i ∧ m < 2 ^ 53
def own_D (j : Int) (K : Int) (a : UInt64) : Prop := FP.Core.Whole K (own_shift j (FP.Core.val64 a))
theorem own_rep_small {K : Nat} (h : K < 2 ^ 53) : own_rep K := ⟨K, 0, by omega, h⟩
theorem own_shift_sum (j : Int) (x y : FP.Core.Datum) : FP.Core.exactSum (own_shift j x) (own_shift j y) = own_shift j (FP.Core.exactSum x y) := by
  cases x with
  | nan => rfl
  | inf s =>
    cases y with
    | nan => rfl
    | inf t => show (if s = t then FP.Core.Datum.inf s else .nan) = own_shift j (if s = t then FP.Core.Datum.inf s else .nan); split <;> rfl
    | fin => rfl
  | fin s c q =>
    cases y with
    | nan => rfl
    | inf t => rfl
    | fin t d r =>
      have h1 : min (q + j) (r + j) = min q r + j := by omega
      have h2 : FP.Core.sumUnits s c (q + j) t d (r + j) (min (q + j) (r + j)) = FP.Core.sumUnits s c q t d r (min q r) := by
        rw [h1]
        unfold FP.Core.sumUnits FP.Core.inUnits
        rw [show q + j - (min q r + j) = q - min q r by omega, show r + j - (min q r + j) = r - min q r by omega]
      show FP.Core.Datum.fin (FP.Core.sumSign s t (FP.Core.sumUnits s c (q + j) t d (r + j) (min (q + j) (r + j)))) (FP.Core.sumUnits s c (q + j) t d (r + j) (min (q + j) (r + j))).natAbs (min (q + j) (r + j)) = .fin (FP.Core.sumSign s t (FP.Core.sumUnits s c q t d r (min q r))) (FP.Core.sumUnits s c q t d r (min q r)).natAbs (min q r + j)
      rw [h2, h1]
theorem own_shift_neg (j : Int) (x : FP.Core.Datum) : FP.Core.negate (own_shift j x) = own_shift j (FP.Core.negate x) := by
  cases x <;> rfl
theorem own_rnd (s : Bool) (K : Nat) (j : Int) (hK : K < 2 ^ 63) (hj : -9 ≤ j ∧ j ≤ 9) :
    ∃ c q N, FP.Core.roundRatio FP.Core.b64 s K 1 (-j) = .fin s c q ∧ FP.Core.Whole (FP.Core.signed s N) (.fin s c (q + j)) ∧ N ≤ K + 512 ∧ K ≤ N + 512 ∧ own_rep N ∧ (own_rep K → N = K) := by
  by_cases h0 : K = 0
  · subst h0
    refine ⟨0, -1074, 0, rfl, ?_, by omega, by omega, own_rep_small (by omega), fun _ => rfl⟩
    show FP.Core.signed s (0 * _) = FP.Core.signed s 0 * _
    rw [Nat.zero_mul]
    cases s <;> simp [FP.Core.signed]
  · have l1 : 2 ^ K.log2 ≤ K := Nat.log2_self_le h0
    have l2 : K < 2 ^ (K.log2 + 1) := Nat.lt_log2_self
    have l3 : K.log2 < 63 := by
      refine Nat.lt_of_not_le fun h => ?_
      have := Nat.pow_le_pow_right (show 0 < 2 by decide) h
      omega
    have e1 : FP.Core.leading K 1 = K.log2 := by
      unfold FP.Core.leading
      rw [show Nat.log2 1 = 0 by decide]
      dsimp only
      rw [if_pos]
      · omega
      · rw [show ((K.log2 : Int) - ((0 : Nat) : Int)).toNat = K.log2 by omega, show (-((K.log2 : Int) - ((0 : Nat) : Int))).toNat = 0 by omega]
        omega
    generalize K.log2 = L at *
    have e2 : FP.Core.quantum FP.Core.b64 K 1 (-j) = L - j - 52 := by
      unfold FP.Core.quantum
      rw [e1]
      show max (-1074 : Int) (L + -j - (53 - 1)) = _
      omega
    have e3 : FP.Core.roundRatio FP.Core.b64 s K 1 (-j) = FP.Core.settle FP.Core.b64 s (FP.Core.nearest (K * 2 ^ (52 - L)) (1 * 2 ^ (L - 52))) (L - j - 52) := by
      unfold FP.Core.roundRatio
      rw [if_neg h0, e2]
      unfold FP.Core.roundAt FP.Core.unitsNum FP.Core.unitsDen
      rw [show (-j - ((L : Int) - j - 52)).toNat = 52 - L by omega, show ((L : Int) - j - 52 - -j).toNat = L - 52 by omega]
    by_cases hL : L ≤ 52
    · have k1 : K * 2 ^ (52 - L) < 2 ^ 53 := by
        have : K * 2 ^ (52 - L) < 2 ^ (L + 1) * 2 ^ (52 - L) := Nat.mul_lt_mul_of_pos_right l2 (Nat.two_pow_pos _)
        rw [← Nat.pow_add, show L + 1 + (52 - L) = 53 by omega] at this
        exact this
      have k2 : K < 2 ^ 53 := by
        have := Nat.pow_le_pow_right (show 0 < 2 by decide) (show L + 1 ≤ 53 by omega)
        omega
      refine ⟨K * 2 ^ (52 - L), L - j - 52, K, ?_, ?_, by omega, by omega, own_rep_small k2, fun _ => rfl⟩
      · rw [e3, show L - 52 = 0 by omega]
        have := FP.Core.nearest_exact (B := 1) (K * 2 ^ (52 - L)) (by decide)
        rw [Nat.mul_one] at this
        rw [show 1 * 2 ^ 0 = 1 by decide, this]
        unfold FP.Core.settle FP.Core.bound
        rw [if_pos (show _ < 2 ^ FP.Core.b64.p from k1), if_pos]
        show _ ≤ (971 : Int)
        omega
      · show FP.Core.signed s (K * 2 ^ (52 - L) * 2 ^ ((L : Int) - j - 52 + j).toNat) = FP.Core.signed s K * ((2 ^ (-((L : Int) - j - 52 + j)).toNat : Nat) : Int)
        rw [show ((L : Int) - j - 52 + j).toNat = 0 by omega, show (-((L : Int) - j - 52 + j)).toNat = 52 - L by omega, Nat.pow_zero, Nat.mul_one, FP.Core.signed_mul]
    · obtain ⟨g, rfl⟩ : ∃ g, L = 52 + g := ⟨L - 52, by omega⟩
      have hg : 1 ≤ g ∧ g ≤ 10 := by omega
      rw [show 52 - (52 + g) = 0 by omega, show 52 + g - 52 = g by omega, Nat.pow_zero, Nat.mul_one, Nat.one_mul] at e3
      have s1 := FP.Core.nearest_spec K (2 ^ g) (Nat.two_pow_pos g)
      have s2 : FP.Core.nearest K (2 ^ g) ≤ 2 ^ 53 := by
        refine FP.Core.nearest_le (Nat.two_pow_pos g) ?_
        rw [← Nat.pow_add, show 53 + g = 52 + g + 1 by omega]
        omega
      have s3 : 2 ^ g ≤ 1024 := by
        have := Nat.pow_le_pow_right (show 0 < 2 by decide) hg.2
        omega
      have s4 : own_rep K → FP.Core.nearest K (2 ^ g) * 2 ^ g = K := by
        rintro ⟨m, i, rfl, hm⟩
        have : g ≤ i := by
          refine Nat.le_of_not_lt fun hlt => ?_
          have a1 : m * 2 ^ i < 2 ^ 53 * 2 ^ i := Nat.mul_lt_mul_of_pos_right hm (Nat.two_pow_pos _)
          rw [← Nat.pow_add] at a1
          have := Nat.pow_le_pow_right (show 0 < 2 by decide) (show 53 + i ≤ 52 + g by omega)
          omega
        rw [show i = (i - g) + g by omega, Nat.pow_add, ← Nat.mul_assoc, FP.Core.nearest_exact _ (Nat.two_pow_pos g)]
      generalize FP.Core.nearest K (2 ^ g) = n at *
      have s5 : n * 2 ^ g ≤ K + 512 ∧ K ≤ n * 2 ^ g + 512 := by
        obtain ⟨t1, t2, _⟩ := s1
        rw [Nat.add_mul, Nat.mul_assoc] at t1
        rw [Nat.mul_assoc] at t2
        omega
      by_cases hn : n < 2 ^ 53
      · refine ⟨n, (52 + g : Nat) - j - 52, n * 2 ^ g, ?_, ?_, s5.1, s5.2, ⟨n, g, rfl, hn⟩, s4⟩
        · rw [e3]
          unfold FP.Core.settle FP.Core.bound
          rw [if_pos (show _ < 2 ^ FP.Core.b64.p from hn), if_pos]
          show _ ≤ (971 : Int)
          omega
        · show FP.Core.signed s (n * 2 ^ (((52 + g : Nat) : Int) - j - 52 + j).toNat) = FP.Core.signed s (n * 2 ^ g) * ((2 ^ (-(((52 + g : Nat) : Int) - j - 52 + j)).toNat : Nat) : Int)
          rw [show (((52 + g : Nat) : Int) - j - 52 + j).toNat = g by omega, show (-(((52 + g : Nat) : Int) - j - 52 + j)).toNat = 0 by omega]
          simp
      · have hn' : n = 2 ^ 53 := by omega
        refine ⟨2 ^ 52, (52 + g : Nat) - j - 52 + 1, n * 2 ^ g, ?_, ?_, s5.1, s5.2, ⟨2 ^ 52, g + 1, ?_, by omega⟩, s4⟩
        · rw [e3]
          unfold FP.Core.settle FP.Core.bound
          rw [if_neg (show ¬ _ < 2 ^ FP.Core.b64.p from hn), if_pos]
          · rfl
          · show _ ≤ (971 : Int)
            omega
        · show FP.Core.signed s (2 ^ 52 * 2 ^ (((52 + g : Nat) : Int) - j - 52 + 1 + j).toNat) = FP.Core.signed s (n * 2 ^ g) * ((2 ^ (-(((52 + g : Nat) : Int) - j - 52 + 1 + j)).toNat : Nat) : Int)
          rw [show (((52 + g : Nat) : Int) - j - 52 + 1 + j).toNat = 1 + g by omega, show (-(((52 + g : Nat) : Int) - j - 52 + 1 + j)).toNat = 0 by omega, hn', Nat.pow_add, ← Nat.mul_assoc]
          simp
        · rw [hn', Nat.pow_succ]; omega
theorem own_signed {K : Int} {s : Bool} {c : Nat} {q : Int} (h : FP.Core.Whole K (.fin s c q)) : FP.Core.signed s K.natAbs = K := by
  by_cases h0 : K = 0
  · subst h0; cases s <;> rfl
  · rw [FP.Core.whole_sign h h0]
    unfold FP.Core.signed
    by_cases h1 : K < 0 <;> simp [h1] <;> omega
theorem own_D_round {j K : Int} {d : FP.Core.Datum} {a : UInt64} (hv : FP.Core.val64 a = FP.Core.round FP.Core.b64 d) (hd : FP.Core.Whole K (own_shift j d)) (hK : K.natAbs < 2 ^ 63) (hj : -9 ≤ j ∧ j ≤ 9) :
    ∃ N : Int, own_D j N a ∧ N ≤ K + 512 ∧ K ≤ N + 512 ∧ own_rep N.natAbs ∧ (own_rep K.natAbs → N = K) := by
  cases d with
  | nan => exact hd.elim
  | inf => exact hd.elim
  | fin s c q =>
    have h1 : FP.Core.round FP.Core.b64 (.fin s c q) = FP.Core.roundRatio FP.Core.b64 s K.natAbs 1 (-j) := by
      refine FP.Core.roundRatio_congr (by decide) (by decide) ?_
      have := FP.Core.whole_natAbs hd
      rw [show (q - -j).toNat = (q + j).toNat by omega, show (-j - q).toNat = (-(q + j)).toNat by omega]
      simpa using this
    have hs := own_signed hd
    obtain ⟨c', q', N, r1, r2, r3, r4, r5, r6⟩ := own_rnd s K.natAbs j hK hj
    refine ⟨FP.Core.signed s N, ?_, ?_⟩
    · unfold own_D
      rw [hv, h1, r1]
      exact r2
    · have hN : (FP.Core.signed s N).natAbs = N := by cases s <;> simp [FP.Core.signed]
      rw [hN]
      generalize K.natAbs = k at *
      have r6' : own_rep k → FP.Core.signed s N = K := fun h => by rw [r6 h, hs]
      refine ⟨?_, ?_, r5, r6'⟩ <;> (subst hs; cases s <;> simp only [FP.Core.signed, if_true, Bool.false_eq_true, if_false] <;> omega)

theorem own_D_add {j K L : Int} {a b : UInt64} (ha : own_D j K a) (hb : own_D j L b) (hK : (K + L).natAbs < 2 ^ 63) (hj : -9 ≤ j ∧ j ≤ 9) :
    ∃ N : Int, own_D j N (FP.dadd a b) ∧ N ≤ K + L + 512 ∧ K + L ≤ N + 512 ∧ own_rep N.natAbs ∧ (own_rep (K + L).natAbs → N = K + L) := by
  refine own_D_round (FP.Core.val64_dadd a b) ?_ hK hj
  rw [← own_shift_sum]
  exact FP.Core.whole_sum ha hb
theorem own_D_sub {j K L : Int} {a b : UInt64} (ha : own_D j K a) (hb : own_D j L b) (hK : (K - L).natAbs < 2 ^ 63) (hj : -9 ≤ j ∧ j ≤ 9) :
    ∃ N : Int, own_D j N (FP.dsub a b) ∧ N ≤ K - L + 512 ∧ K - L ≤ N + 512 ∧ own_rep N.natAbs ∧ (own_rep (K - L).natAbs → N = K - L) := by
  refine own_D_round (FP.Core.val64_dsub a b) ?_ hK hj
  rw [← own_shift_sum, ← own_shift_neg]
  exact FP.Core.whole_sum ha (FP.Core.whole_negate hb)
theorem own_D_mul {i j K L : Int} {a b : UInt64} (ha : own_D i K a) (hb : own_D j L b) (hK : (K * L).natAbs < 2 ^ 63) (hj : -9 ≤ i + j ∧ i + j ≤ 9) (hr : own_rep (K * L).natAbs) :
    own_D (i + j) (K * L) (FP.dmul a b) := by
  obtain ⟨N, h1, _, _, _, h2⟩ := own_D_round (j := i + j) (K := K * L) (FP.Core.val64_dmul a b) (by
    have hp := FP.Core.whole_product ha hb
    unfold own_D at ha hb
    revert ha hb hp
    generalize FP.Core.val64 a = x
    generalize FP.Core.val64 b = y
    intro ha hb hp
    cases x with
    | nan => exact ha.elim
    | inf => exact ha.elim
    | fin s c q =>
      cases y with
      | nan => exact hb.elim
      | inf => exact hb.elim
      | fin t d r =>
        have e : FP.Core.exactProduct (own_shift i (.fin s c q)) (own_shift j (.fin t d r)) = own_shift (i + j) (FP.Core.exactProduct (.fin s c q) (.fin t d r)) := by
          show FP.Core.Datum.fin (s != t) (c * d) (q + i + (r + j)) = .fin (s != t) (c * d) (q + r + (i + j))
          rw [show q + i + (r + j) = q + r + (i + j) by omega]
        rw [← e]; exact hp) hK hj
  rw [h2 hr] at h1
  exact h1
theorem own_D_ex {j K : Int} {a : UInt64} (h : ∃ N : Int, own_D j N a ∧ N ≤ K + 512 ∧ K ≤ N + 512 ∧ own_rep N.natAbs ∧ (own_rep K.natAbs → N = K)) (hr : K.natAbs < 2 ^ 53) : own_D j K a := by
  obtain ⟨N, h1, _, _, _, h2⟩ := h
  rw [h2 (own_rep_small hr)] at h1
  exact h1
theorem own_D_l2d {a : Int64} (h : a.toInt.natAbs ≤ 2 ^ 53) : own_D 0 a.toInt (FP.l2d a) := by
  have h1 : FP.Core.Whole a.toInt (FP.Core.val64 (FP.l2d a)) := FP.Core.l2d_int h
  unfold own_D
  generalize FP.Core.val64 (FP.l2d a) = x at *
  cases x with
  | nan => exact h1
  | inf => exact h1
  | fin s c q => show FP.Core.Whole _ (.fin s c (q + 0)); rw [Int.add_zero]; exact h1
theorem own_D_d2l {a : Int64} {x : UInt64} (h : own_D 0 a.toInt x) : FP.d2l x = a := by
  refine FP.Core.d2l_int ?_
  show FP.Core.Whole a.toInt (FP.Core.val64 x)
  unfold own_D at h
  generalize FP.Core.val64 x = y at *
  cases y with
  | nan => exact h
  | inf => exact h
  | fin s c q => have h : FP.Core.Whole _ (.fin s c (q + 0)) := h; rw [Int.add_zero] at h; exact h
theorem own_D_up {j : Nat} {K : Int} {a : UInt64} (h : own_D 0 K a) : own_D j (K * 2 ^ j) a := by
  unfold own_D at h ⊢
  generalize FP.Core.val64 a = y at *
  cases y with
  | nan => exact h
  | inf => exact h
  | fin s c q =>
    have h : FP.Core.Whole _ (.fin s c (q + 0)) := h
    rw [Int.add_zero] at h
    have h2 : FP.Core.Whole (2 ^ j) (.fin false 1 j) := by
      show FP.Core.signed false (1 * 2 ^ (j : Int).toNat) = 2 ^ j * ((2 ^ (-(j : Int)).toNat : Nat) : Int)
      rw [show (j : Int).toNat = j by omega, show (-(j : Int)).toNat = 0 by omega]
      simp [FP.Core.signed]
    have h3 := FP.Core.whole_product h h2
    have e : FP.Core.exactProduct (.fin s c q) (.fin false 1 j) = own_shift j (.fin s c q) := by
      show FP.Core.Datum.fin (s != false) (c * 1) (q + j) = .fin s c (q + j)
      rw [Nat.mul_one]; cases s <;> rfl
    rw [← e]; exact h3
theorem own_D_no {j K : Int} {a : UInt64} (h : own_D j K a) : FP.Core.val64 a ≠ .nan := by
  intro h0
  unfold own_D at h
  rw [h0] at h
  exact h
theorem own_D_zval {j : Nat} {K : Int} {a : UInt64} (hj : j ≤ 9) (h : own_D j K a) : FP.Core.zval FP.Core.b64 (FP.Core.val64 a) = K * ((2 ^ (1074 - j) : Nat) : Int) := by
  have hf := FP.Core.val64_fits a
  unfold own_D at h
  generalize FP.Core.val64 a = y at *
  cases y with
  | nan => exact h.elim
  | inf => exact h.elim
  | fin s c q =>
    have hq : (-1074 : Int) ≤ q := hf.2.1
    have h1 := FP.Core.whole_units (e := -1074 + (j : Int)) h (by omega)
    rw [show (-1074 + (j : Int)).toNat = 0 by omega, show (-(-1074 + (j : Int))).toNat = 1074 - j by omega] at h1
    show FP.Core.signed s (c * 2 ^ (q - -1074).toNat) = _
    rw [← h1]
    unfold FP.Core.inUnits
    rw [show (q + (j : Int) - (-1074 + (j : Int))).toNat = (q - -1074).toNat by omega]
    simp
theorem own_D_eq {j : Nat} {K : Int} {a b : UInt64} (hj : j ≤ 9) (ha : own_D j K a) (hb : own_D j K b) : FP.dcmp a b = some .eq := by
  show FP.Core.dcmp a b = _
  rw [FP.Core.dcmp_zval (own_D_no ha) (own_D_no hb), own_D_zval hj ha, own_D_zval hj hb]
  congr 1
  exact (FP.Core.compare_eq_iff _ _).mpr rfl
def own_t (x s : UInt64) : UInt64 := FP.dsub s x
def own_v (x s : UInt64) : UInt64 := FP.dsub s (own_t x s)
def own_x (x s : UInt64) : UInt64 := FP.dsub x (own_v x s)
def own_y (x y s : UInt64) : UInt64 := FP.dsub y (own_t x s)
def own_r (x y s : UInt64) : UInt64 := FP.dadd (own_x x s) (own_y x y s)
def own_ok (j : Nat) (d : Int) (x y s : UInt64) : Prop := (∃ K, own_D j K (own_t x s)) ∧ (∃ K, own_D j K (own_v x s)) ∧ (∃ K, own_D j K (own_x x s)) ∧ (∃ K, own_D j K (own_y x y s)) ∧ own_D j d (own_r x y s)
theorem own_two {j : Nat} {p q : Int} {a b : UInt64} (hj : j ≤ 9) (hp : p.natAbs ≤ 2 ^ 52) (hq : q.natAbs ≤ 2 ^ 52) (ha : own_D j (p * 2 ^ j) a) (hb : own_D j q b) :
    ∃ S d : Int, own_D j S (FP.dadd a b) ∧ own_rep S.natAbs ∧ d = p * 2 ^ j + q - S ∧ d.natAbs ≤ 512 ∧ own_ok j d a b (FP.dadd a b) ∧ own_ok j d b a (FP.dadd a b) := by
  have hj' : (-9 : Int) ≤ (j : Int) ∧ (j : Int) ≤ 9 := by omega
  have hA : (p * 2 ^ j).natAbs = p.natAbs * 2 ^ j := by rw [Int.natAbs_mul, Int.natAbs_pow]; rfl
  have hA1 : p.natAbs * 2 ^ j ≤ 2 ^ 52 * 2 ^ 9 := Nat.mul_le_mul hp (Nat.pow_le_pow_right (by decide) hj)
  have hA2 : own_rep (p * 2 ^ j).natAbs := ⟨p.natAbs, j, hA, by omega⟩
  generalize p * 2 ^ j = A at *
  obtain ⟨S, s1, s2, s3, s4, _⟩ := own_D_add ha hb (by omega) hj'
  generalize FP.dadd a b = s at *
  refine ⟨S, A + q - S, s1, s4, rfl, by omega, ?_, ?_⟩
  · have t1 : own_D j (S - A) (own_t a s) := own_D_ex (own_D_sub s1 ha (by omega) hj') (by omega)
    have t2 : own_D j (S - (S - A)) (own_v a s) := by
      obtain ⟨N, u1, _, _, _, u2⟩ := own_D_sub s1 t1 (by omega) hj'
      rw [u2 (by rw [show S - (S - A) = A by omega]; exact hA2)] at u1
      exact u1
    have t3 : own_D j (A - (S - (S - A))) (own_x a s) := own_D_ex (own_D_sub ha t2 (by omega) hj') (by omega)
    have t4 : own_D j (q - (S - A)) (own_y a b s) := own_D_ex (own_D_sub hb t1 (by omega) hj') (by omega)
    have t5 : own_D j (A - (S - (S - A)) + (q - (S - A))) (own_r a b s) := own_D_ex (own_D_add t3 t4 (by omega) hj') (by omega)
    rw [show A - (S - (S - A)) + (q - (S - A)) = A + q - S by omega] at t5
    exact ⟨⟨_, t1⟩, ⟨_, t2⟩, ⟨_, t3⟩, ⟨_, t4⟩, t5⟩
  · obtain ⟨t, t1, u1, u2, _, _⟩ := own_D_sub s1 hb (by omega) hj'
    have t1 : own_D j t (own_t b s) := t1
    have t2 : own_D j (S - t) (own_v b s) := own_D_ex (own_D_sub s1 t1 (by omega) hj') (by omega)
    have t3 : own_D j (q - (S - t)) (own_x b s) := own_D_ex (own_D_sub hb t2 (by omega) hj') (by omega)
    have t4 : own_D j (A - t) (own_y b a s) := own_D_ex (own_D_sub ha t1 (by omega) hj') (by omega)
    have t5 : own_D j (q - (S - t) + (A - t)) (own_r b a s) := own_D_ex (own_D_add t3 t4 (by omega) hj') (by omega)
    rw [show q - (S - t) + (A - t) = A + q - S by omega] at t5
    exact ⟨⟨_, t1⟩, ⟨_, t2⟩, ⟨_, t3⟩, ⟨_, t4⟩, t5⟩
theorem own_D_nn {j K : Int} {a : UInt64} (h : own_D j K a) : Jvm.Free.Fl.NoNaN64 a := Jvm.Free.Fl.noNaN64_no.mpr ((FP.Core.notNaN_iff a).mpr (own_D_no h))
theorem own_nn {j : Int} {a : UInt64} (h : ∃ K, own_D j K a) : Jvm.Free.Fl.NoNaN64 a := by
  obtain ⟨K, h⟩ := h
  exact own_D_nn h
def own_chk (j K : Int) (d : FP.Core.Datum) : Bool :=
  match own_shift j d with
  | .fin s c q => decide (FP.Core.signed s (c * 2 ^ q.toNat) = K * ((2 ^ (-q).toNat : Nat) : Int))
  | _ => false
theorem own_chk_ok {j K : Int} {a : UInt64} (h : own_chk j K (FP.Core.val64 a) = true) : own_D j K a := by
  unfold own_D
  unfold own_chk at h
  generalize own_shift j (FP.Core.val64 a) = y at *
  cases y with
  | nan => cases h
  | inf => cases h
  | fin s c q =>
    have h2 : decide (FP.Core.signed s (c * 2 ^ q.toNat) = K * ((2 ^ (-q).toNat : Nat) : Int)) = true := h
    have h3 := of_decide_eq_true h2
    exact h3
theorem own_pows : ∀ j : Fin 10, own_chk (-(j.val : Int)) 1 (FP.Core.val64 (FP.Core.l2d (Int64.ofNat (2 ^ j.val)))) = true ∧ own_chk (j.val : Int) 1 (FP.Core.val64 (FP.Core.ddiv 4607182418800017408 (FP.Core.l2d (Int64.ofNat (2 ^ j.val))))) = true ∧ (1 : Int64) <<< (Int32.ofNat j.val &&& 0x3f).toInt64 = Int64.ofNat (2 ^ j.val) ∧ (Int64.ofNat (2 ^ j.val)).toInt = 2 ^ j.val := by decide +kernel
theorem own_one : FP.dconst1 = 4607182418800017408 := by decide +kernel
theorem own_mr (a m : Int32) (h : 1 ≤ m.toInt) : 0 ≤ ((a &&& (2147483647 : Int32)) - ((a &&& (2147483647 : Int32)) / m) * m).toInt ∧ ((a &&& (2147483647 : Int32)) - ((a &&& (2147483647 : Int32)) / m) * m).toInt < m.toInt := by
  have mk := Jvm.Kit.i32_mask a (2147483647 : Int32) (k := 31) (by decide) (by decide)
  have nn : 0 ≤ (a &&& (2147483647 : Int32)).toInt := by rw [mk]; omega
  rw [Jvm.LawKit.rem_toInt, Int.tmod_eq_emod_of_nonneg nn]
  exact ⟨Int.emod_nonneg _ (by omega), Int.emod_lt_of_pos _ (by omega)⟩
theorem own_j {z v : Int32} {w : Int64} (h : v = ((z &&& (2147483647 : Int32)) - ((z &&& (2147483647 : Int32)) / (10 : Int32)) * (10 : Int32))) (hw : w = (1 : Int64) <<< (v &&& 0x3f).toInt64) :
    ∃ jn : Nat, jn ≤ 9 ∧ w.toInt = 2 ^ jn ∧ own_D (-(jn : Int)) 1 (FP.l2d w) ∧ own_D jn 1 (FP.ddiv FP.dconst1 (FP.l2d w)) := by
  have m := own_mr z 10 (by decide)
  rw [← h] at m
  have e : (10 : Int32).toInt = 10 := by decide
  rw [e] at m
  have hv : v = Int32.ofNat v.toInt.toNat := by
    apply Int32.toInt_inj.mp
    rw [Int32.toInt_ofNat_of_lt (by omega)]
    omega
  have P := own_pows ⟨v.toInt.toNat, by omega⟩
  dsimp only at P
  rw [← hv, ← hw] at P
  obtain ⟨p1, p2, p3, p4⟩ := P
  rw [← p3] at p1 p2 p4
  exact ⟨v.toInt.toNat, by omega, p4, own_chk_ok p1, own_one ▸ own_chk_ok p2⟩
theorem own_p {x v : Int64} (h : v = x >>> ((11 : Int32) &&& 0x3f).toInt64) : v.toInt.natAbs ≤ 2 ^ 52 := by
  have s := Jvm.Kit.i64_shr x ((11 : Int32) &&& 0x3f).toInt64 (k := 11) (by decide)
  rw [← h] at s
  have b1 := x.toInt_lt
  have b2 := x.le_toInt
  omega
theorem own_a {jn : Nat} {p : Int64} (hp : p.toInt.natAbs ≤ 2 ^ 52) : own_D jn (p.toInt * 2 ^ jn) (FP.l2d p) := own_D_up (own_D_l2d (by omega))
theorem own_b {jn : Nat} {q : Int64} {sc : UInt64} (hj : jn ≤ 9) (hq : q.toInt.natAbs < 2 ^ 53) (hs : own_D jn 1 sc) : own_D jn q.toInt (FP.dmul (FP.l2d q) sc) := by
  have h := own_D_mul (own_D_l2d (a := q) (by omega)) hs (by rw [Int.mul_one]; omega) (by omega) (by rw [Int.mul_one]; exact own_rep_small hq)
  rw [Int.mul_one, Int.zero_add] at h
  exact h
theorem own_s {jn : Nat} {S : Int} {s : UInt64} {w : Int64} (hs : own_D jn S s) (hr : own_rep S.natAbs) (hS : S.natAbs < 2 ^ 63) (hw : own_D (-(jn : Int)) 1 (FP.l2d w)) : own_D 0 S (FP.dmul s (FP.l2d w)) := by
  have h := own_D_mul hs hw (by rw [Int.mul_one]; omega) (by omega) (by rw [Int.mul_one]; exact hr)
  rw [Int.mul_one, show (jn : Int) + -(jn : Int) = 0 by omega] at h
  exact h
theorem own_last {jn : Nat} {S d : Int} {p q w e t : Int64} {s : UInt64} (hj : jn ≤ 9) (hp : p.toInt.natAbs ≤ 2 ^ 52) (hq : q.toInt.natAbs ≤ 2 ^ 52) (hw : w.toInt = 2 ^ jn) (hd : d = p.toInt * 2 ^ jn + q.toInt - S) (hd5 : d.natAbs ≤ 512) (hs : own_D 0 S s) (he : e = p * w + q) (ht : t = FP.d2l s) : (e - t).toInt = d := by
  have hA : (p.toInt * 2 ^ jn).natAbs = p.toInt.natAbs * 2 ^ jn := by rw [Int.natAbs_mul, Int.natAbs_pow]; rfl
  have hA1 : p.toInt.natAbs * 2 ^ jn ≤ 2 ^ 52 * 2 ^ 9 := Nat.mul_le_mul hp (Nat.pow_le_pow_right (by decide) hj)
  have e1 : (p * w).toInt = p.toInt * 2 ^ jn := by rw [Jvm.Kit.i64_mul (by rw [hw]; omega) (by rw [hw]; omega), hw]
  have e2 : e.toInt = p.toInt * 2 ^ jn + q.toInt := by rw [he, Jvm.Kit.i64_add (by rw [e1]; omega) (by rw [e1]; omega), e1]
  generalize p.toInt * 2 ^ jn = A at *
  have e3 : (Int64.ofInt S).toInt = S := Int64.toInt_ofInt_of_le (by omega) (by omega)
  have e4 : t = Int64.ofInt S := by
    rw [ht]
    exact own_D_d2l (by rw [e3]; exact hs)
  have e5 : t.toInt = S := by rw [e4, e3]
  rw [Jvm.Kit.i64_sub (by omega) (by omega)]
  omega
theorem own_S63 {jn : Nat} {S d p q : Int} (hj : jn ≤ 9) (hp : p.natAbs ≤ 2 ^ 52) (hq : q.natAbs ≤ 2 ^ 52) (hd : d = p * 2 ^ jn + q - S) (hd5 : d.natAbs ≤ 512) : S.natAbs < 2 ^ 63 := by
  have hA : (p * 2 ^ jn).natAbs = p.natAbs * 2 ^ jn := by rw [Int.natAbs_mul, Int.natAbs_pow]; rfl
  have hA1 : p.natAbs * 2 ^ jn ≤ 2 ^ 52 * 2 ^ 9 := Nat.mul_le_mul hp (Nat.pow_le_pow_right (by decide) hj)
  generalize p * 2 ^ jn = A at *
  omega
theorem own_cmp {jn : Nat} {d : Int} {a b : UInt64} (hj : jn ≤ 9) (ha : own_D jn d a) (hb : own_D jn d b) (o : CmpOp) : cmpValue (FP.dcmp a b) o = (0 : Int32) := by
  rw [own_D_eq hj ha hb]
  rfl

/-! body 1 -/
theorem d1_0 : decode prog_5_method_2_code 0 = .ok (.dload 4, 2) := by decide +kernel
theorem d1_2 : decode prog_5_method_2_code 2 = .ok (.dload_n 0, 1) := by decide +kernel
theorem d1_3 : decode prog_5_method_2_code 3 = .ok (.dsub, 1) := by decide +kernel
theorem d1_4 : decode prog_5_method_2_code 4 = .ok (.dstore 6, 2) := by decide +kernel
theorem d1_6 : decode prog_5_method_2_code 6 = .ok (.dload 4, 2) := by decide +kernel
theorem d1_8 : decode prog_5_method_2_code 8 = .ok (.dload 6, 2) := by decide +kernel
theorem d1_10 : decode prog_5_method_2_code 10 = .ok (.dsub, 1) := by decide +kernel
theorem d1_11 : decode prog_5_method_2_code 11 = .ok (.dstore 8, 2) := by decide +kernel
theorem d1_13 : decode prog_5_method_2_code 13 = .ok (.dload_n 0, 1) := by decide +kernel
theorem d1_14 : decode prog_5_method_2_code 14 = .ok (.dload 8, 2) := by decide +kernel
theorem d1_16 : decode prog_5_method_2_code 16 = .ok (.dsub, 1) := by decide +kernel
theorem d1_17 : decode prog_5_method_2_code 17 = .ok (.dload_n 2, 1) := by decide +kernel
theorem d1_18 : decode prog_5_method_2_code 18 = .ok (.dload 6, 2) := by decide +kernel
theorem d1_20 : decode prog_5_method_2_code 20 = .ok (.dsub, 1) := by decide +kernel
theorem d1_21 : decode prog_5_method_2_code 21 = .ok (.dadd, 1) := by decide +kernel
theorem d1_22 : decode prog_5_method_2_code 22 = .ok (.dreturn, 1) := by decide +kernel
theorem pn_1 : plainName "com/example/locatree/locatree/core/Rounding" = true := by first | (simp [plainName, overriddenIn]; done) | decide +kernel
theorem ef_1 (m : MethodId) (d1 : UInt64) (d2 : UInt64) (d3 : UInt64) : entryFrame m #[(.double d1), (.double d2), (.double d3)] 10 = mkF m 0 #[.val (.double d1), .second, .val (.double d2), .second, .val (.double d3), .second, .unset, .unset, .unset, .unset] [] := by first | (simp [entryFrame, mkF, argsToLocals, Value.category]; done) | rfl
def Q1 (Z : State) (d1 : UInt64) (d2 : UInt64) (d3 : UInt64) (jn : Nat) (dd : Int) (h0 : Heap) (n0 : Nat) (v : Option Value) (h : Heap) (L : List Loc) : Prop := ∃ r : UInt64, v = some (.double r) ∧ Fr n0 L ∧ h = h0 ∧ (own_D jn dd r)
set_option maxRecDepth 65536 in
set_option maxHeartbeats 40000000 in
theorem rm1 (l : Launch) (Z : State) (a0 : Array Value) (hw : ∀ d ∈ tables_1, d.before a0 Z = true) (ws : List Jvm.Cond) (d1 : UInt64) (d2 : UInt64) (d3 : UInt64) (jn : Nat) (dd : Int) (h0 : Heap) (n0 : Nat) (Z0 : n0 ≤ h0.size) (hok : own_ok jn dd d1 d2 d3) :
    MetFree l (⟨"com/example/locatree/locatree/core/Rounding", "ofSum", "(DDD)D"⟩ : MethodName) (head1 (Jvm.Cond.code (⟨"com/example/locatree/locatree/core/Rounding", "ofSum", "(DDD)D"⟩ : MethodName) prog_5_method_2_code 10 (some .double) :: ws) ({ frames := 0, cells := 0, slots := 0, locals := 0 } : Room)) (fun a U => a = #[(.double d1), (.double d2), (.double d3)] ∧ Z.Warmed39 U.vm ∧ U.heap = h0) (fun _ _ _ _ _ => True) (fun _ U o U' => ∃ v L, o = .returned v ∧ Q1 Z d1 d2 d3 jn dd h0 n0 v U'.heap L ∧ FrameEnd U o U' L ({ frames := 0, cells := 0, slots := 0, locals := 0 } : Room).cells ({ frames := 0, cells := 0, slots := 0, locals := 0 } : Room).slots) := by
  refine MetFree.of_bodySF (plainFor_of_name pn_1) hisR ?_
  intro p e s m args below meth c s₁ Bd hml0 hP hK
  obtain ⟨rfl, hZ, hh⟩ := hP
  have hx := Bd.exec
  have hby := Bd.bytes
  have hml : c.maxLocals = 10 := hml0
  have hown : s.vm.findClass "com/example/locatree/locatree/core/Rounding" = some m.cls := findClass_of_methodNamed Bd.named
  have hnm := (name_of_methodNamed Bd.named Bd.method).1
  have X0 : Stand p l e ({ frames := 0, cells := 0, slots := 0, locals := 0 } : Room) s m #[(.double d1), (.double d2), (.double d3)] below meth c s₁ [] 0 0 := Stand.of_body Bd
  have e0 : s₁.heap = h0 := by rw [← hh, Bd.state]; rfl
  have N0 := Fr.nil n0
  have pre0 : ∀ tq, Steps p.tables e below (s₁.setTop (mkF m 0 #[.val (.double d1), .second, .val (.double d2), .second, .val (.double d3), .second, .unset, .unset, .unset, .unset] [])) tq → Steps p.tables e below (s₁.setTop (entryFrame m #[(.double d1), (.double d2), (.double d3)] 10)) tq := fun tq kq => castTop (ef_1 m d1 d2 d3) kq
  have hnn3 : Jvm.Free.Fl.NoNaN64 (FP.dsub d3 d1) := by exact own_nn hok.1
  obtain ⟨v2, hv_v2, pre1⟩ : ∃ v2 : UInt64, v2 = (FP.dsub d3 d1) ∧ (∀ tq, Steps p.tables e below (s₁.setTop (mkF m 6 #[.val (.double d1), .second, .val (.double d2), .second, .val (.double d3), .second, .val (.double v2), .second, .unset, .unset] [])) tq → Steps p.tables e below (s₁.setTop (entryFrame m #[(.double d1), (.double d2), (.double d3)] 10)) tq) := by
    refine ⟨_, rfl, fun tq kq => pre0 tq ?_⟩
    show Steps p.tables e below (s₁.setTop (mkF m 0 #[.val (.double d1), .second, .val (.double d2), .second, .val (.double d3), .second, .unset, .unset, .unset, .unset] [])) _
    refine XS.dload X0.here hx rfl (hb hby d1_0) rfl ?_
    show Steps p.tables e below (s₁.setTop (mkF m 2 #[.val (.double d1), .second, .val (.double d2), .second, .val (.double d3), .second, .unset, .unset, .unset, .unset] [(.double d3)])) _
    refine XS.dloadN X0.here hx rfl (hb hby d1_2) rfl ?_
    show Steps p.tables e below (s₁.setTop (mkF m 3 #[.val (.double d1), .second, .val (.double d2), .second, .val (.double d3), .second, .unset, .unset, .unset, .unset] [(.double d1), (.double d3)])) _
    refine XS.dsubS X0.here hx rfl (hb hby d1_3) rfl hnn3 rfl ?_
    show Steps p.tables e below (s₁.setTop (mkF m 4 #[.val (.double d1), .second, .val (.double d2), .second, .val (.double d3), .second, .unset, .unset, .unset, .unset] [(.double (FP.dsub d3 d1))])) _
    refine XS.dstore X0.here hx rfl (hb hby d1_4) rfl (l' := #[.val (.double d1), .second, .val (.double d2), .second, .val (.double d3), .second, .val (.double (FP.dsub d3 d1)), .second, .unset, .unset]) rfl ?_
    exact kq
  have hnn10 : Jvm.Free.Fl.NoNaN64 (FP.dsub d3 v2) := by rw [hv_v2]; exact own_nn hok.2.1
  obtain ⟨v4, hv_v4, pre3⟩ : ∃ v4 : UInt64, v4 = (FP.dsub d3 v2) ∧ (∀ tq, Steps p.tables e below (s₁.setTop (mkF m 13 #[.val (.double d1), .second, .val (.double d2), .second, .val (.double d3), .second, .val (.double v2), .second, .val (.double v4), .second] [])) tq → Steps p.tables e below (s₁.setTop (entryFrame m #[(.double d1), (.double d2), (.double d3)] 10)) tq) := by
    refine ⟨_, rfl, fun tq kq => pre1 tq ?_⟩
    show Steps p.tables e below (s₁.setTop (mkF m 6 #[.val (.double d1), .second, .val (.double d2), .second, .val (.double d3), .second, .val (.double v2), .second, .unset, .unset] [])) _
    refine XS.dload X0.here hx rfl (hb hby d1_6) rfl ?_
    show Steps p.tables e below (s₁.setTop (mkF m 8 #[.val (.double d1), .second, .val (.double d2), .second, .val (.double d3), .second, .val (.double v2), .second, .unset, .unset] [(.double d3)])) _
    refine XS.dload X0.here hx rfl (hb hby d1_8) rfl ?_
    show Steps p.tables e below (s₁.setTop (mkF m 10 #[.val (.double d1), .second, .val (.double d2), .second, .val (.double d3), .second, .val (.double v2), .second, .unset, .unset] [(.double v2), (.double d3)])) _
    refine XS.dsubS X0.here hx rfl (hb hby d1_10) rfl hnn10 rfl ?_
    show Steps p.tables e below (s₁.setTop (mkF m 11 #[.val (.double d1), .second, .val (.double d2), .second, .val (.double d3), .second, .val (.double v2), .second, .unset, .unset] [(.double (FP.dsub d3 v2))])) _
    refine XS.dstore X0.here hx rfl (hb hby d1_11) rfl (l' := #[.val (.double d1), .second, .val (.double d2), .second, .val (.double d3), .second, .val (.double v2), .second, .val (.double (FP.dsub d3 v2)), .second]) rfl ?_
    exact kq
  have hnn16 : Jvm.Free.Fl.NoNaN64 (FP.dsub d1 v4) := by rw [hv_v4, hv_v2]; exact own_nn hok.2.2.1
  have hnn20 : Jvm.Free.Fl.NoNaN64 (FP.dsub d2 v2) := by rw [hv_v2]; exact own_nn hok.2.2.2.1
  have hnn21 : Jvm.Free.Fl.NoNaN64 (FP.dadd (FP.dsub d1 v4) (FP.dsub d2 v2)) := by rw [hv_v4, hv_v2]; exact own_D_nn hok.2.2.2.2
  obtain ⟨fs, hr, hrun, hended, hW, hsame⟩ := X0.leave (v := some (.double (FP.dadd (FP.dsub d1 v4) (FP.dsub d2 v2)))) (fun h => by rw [Bd.returns] at h; cases h)
  refine ⟨_, _, pre3 _ ?_, hrun, hended, _, _, rfl, ?_, ⟨_, rfl⟩, hW, hsame.mono (by decide) (by decide)⟩
  · skip
    show Steps p.tables e below (s₁.setTop (mkF m 13 #[.val (.double d1), .second, .val (.double d2), .second, .val (.double d3), .second, .val (.double v2), .second, .val (.double v4), .second] [])) _
    refine XS.dloadN X0.here hx rfl (hb hby d1_13) rfl ?_
    show Steps p.tables e below (s₁.setTop (mkF m 14 #[.val (.double d1), .second, .val (.double d2), .second, .val (.double d3), .second, .val (.double v2), .second, .val (.double v4), .second] [(.double d1)])) _
    refine XS.dload X0.here hx rfl (hb hby d1_14) rfl ?_
    show Steps p.tables e below (s₁.setTop (mkF m 16 #[.val (.double d1), .second, .val (.double d2), .second, .val (.double d3), .second, .val (.double v2), .second, .val (.double v4), .second] [(.double v4), (.double d1)])) _
    refine XS.dsubS X0.here hx rfl (hb hby d1_16) rfl hnn16 rfl ?_
    show Steps p.tables e below (s₁.setTop (mkF m 17 #[.val (.double d1), .second, .val (.double d2), .second, .val (.double d3), .second, .val (.double v2), .second, .val (.double v4), .second] [(.double (FP.dsub d1 v4))])) _
    refine XS.dloadN X0.here hx rfl (hb hby d1_17) rfl ?_
    show Steps p.tables e below (s₁.setTop (mkF m 18 #[.val (.double d1), .second, .val (.double d2), .second, .val (.double d3), .second, .val (.double v2), .second, .val (.double v4), .second] [(.double d2), (.double (FP.dsub d1 v4))])) _
    refine XS.dload X0.here hx rfl (hb hby d1_18) rfl ?_
    show Steps p.tables e below (s₁.setTop (mkF m 20 #[.val (.double d1), .second, .val (.double d2), .second, .val (.double d3), .second, .val (.double v2), .second, .val (.double v4), .second] [(.double v2), (.double d2), (.double (FP.dsub d1 v4))])) _
    refine XS.dsubS X0.here hx rfl (hb hby d1_20) rfl hnn20 rfl ?_
    show Steps p.tables e below (s₁.setTop (mkF m 21 #[.val (.double d1), .second, .val (.double d2), .second, .val (.double d3), .second, .val (.double v2), .second, .val (.double v4), .second] [(.double (FP.dsub d2 v2)), (.double (FP.dsub d1 v4))])) _
    refine XS.daddS X0.here hx rfl (hb hby d1_21) rfl hnn21 rfl ?_
    show Steps p.tables e below (s₁.setTop (mkF m 22 #[.val (.double d1), .second, .val (.double d2), .second, .val (.double d3), .second, .val (.double v2), .second, .val (.double v4), .second] [(.double (FP.dadd (FP.dsub d1 v4) (FP.dsub d2 v2)))])) _
    exact retD X0 hx Bd.returns (hb hby d1_22) hr
  · show Q1 Z d1 d2 d3 jn dd h0 n0 _ s₁.heap _
    rw [e0]
    refine ⟨(FP.dadd (FP.dsub d1 v4) (FP.dsub d2 v2)), rfl, N0, rfl, ?_⟩
    rw [hv_v4, hv_v2]; exact hok.2.2.2.2
/-! body 0 -/
theorem pn_0 : plainName "com/example/locatree/locatree/core/RoundingOfSumPinLaw" = true := by first | (simp [plainName, overriddenIn]; done) | decide +kernel
theorem pd0_0 : parseMethodDescriptor "(DDD)D" = some ⟨[.double, .double, .double], some .double⟩ := by decide +kernel
theorem ef_0 (m : MethodId) (q1 : Int64) (q2 : Int64) (p3 : Int32) (p4 : Int32) : entryFrame m #[(.long q1), (.long q2), (.int p3), (.int p4)] maxLocals = mkF m 0 #[.val (.long q1), .second, .val (.long q2), .second, .val (.int p3), .val (.int p4), .unset, .unset, .unset, .unset, .unset, .unset, .unset, .unset, .unset, .unset, .unset, .unset, .unset, .unset, .unset, .unset, .unset, .unset, .unset, .unset, .unset, .unset, .unset] [] := by first | (simp [entryFrame, mkF, argsToLocals, Value.category, maxLocals]; done) | rfl
def Q0 (Z : State) (q1 : Int64) (q2 : Int64) (p3 : Int32) (p4 : Int32) (h0 : Heap) (n0 : Nat) (v : Option Value) (h : Heap) (L : List Loc) : Prop := v = some (.int 1) ∧ Fr n0 L
set_option maxRecDepth 65536 in
set_option maxHeartbeats 40000000 in
theorem rm0 (l : Launch) (Z : State) (a0 : Array Value) (hw : ∀ d ∈ tables_1, d.before a0 Z = true) (ws : List Jvm.Cond) (q1 : Int64) (q2 : Int64) (p3 : Int32) (p4 : Int32) (h0 : Heap) (n0 : Nat) (Z0 : n0 ≤ h0.size)  :
    MetFree l x (head1 (Jvm.Cond.code x code maxLocals ret :: ws) room_1) (fun a U => a = #[(.long q1), (.long q2), (.int p3), (.int p4)] ∧ Z.Warmed39 U.vm ∧ U.heap = h0) (fun _ _ _ _ _ => True) (fun _ U o U' => ∃ v L, o = .returned v ∧ Q0 Z q1 q2 p3 p4 h0 n0 v U'.heap L ∧ FrameEnd U o U' L room_1.cells room_1.slots) := by
  refine MetFree.of_bodySF (plainFor_of_name pn_0) hisR ?_
  intro p e s m args below meth c s₁ Bd hml0 hP hK
  obtain ⟨rfl, hZ, hh⟩ := hP
  have hx := Bd.exec
  have hby := Bd.bytes
  have hml : c.maxLocals = 29 := hml0
  have hown : s.vm.findClass "com/example/locatree/locatree/core/RoundingOfSumPinLaw" = some m.cls := findClass_of_methodNamed Bd.named
  have hnm := (name_of_methodNamed Bd.named Bd.method).1
  have X0 : Stand p l e room_1 s m #[(.long q1), (.long q2), (.int p3), (.int p4)] below meth c s₁ [] 0 0 := Stand.of_body Bd
  have e0 : s₁.heap = h0 := by rw [← hh, Bd.state]; rfl
  have N0 := Fr.nil n0
  have pre0 : ∀ tq, Steps p.tables e below (s₁.setTop (mkF m 0 #[.val (.long q1), .second, .val (.long q2), .second, .val (.int p3), .val (.int p4), .unset, .unset, .unset, .unset, .unset, .unset, .unset, .unset, .unset, .unset, .unset, .unset, .unset, .unset, .unset, .unset, .unset, .unset, .unset, .unset, .unset, .unset, .unset] [])) tq → Steps p.tables e below (s₁.setTop (entryFrame m #[(.long q1), (.long q2), (.int p3), (.int p4)] maxLocals)) tq := fun tq kq => castTop (ef_0 m q1 q2 p3 p4) kq
  obtain ⟨v2, hv_v2, pre1⟩ : ∃ v2 : Int64, v2 = (q1 >>> ((11 : Int32) &&& 0x3f).toInt64) ∧ (∀ tq, Steps p.tables e below (s₁.setTop (mkF m 6 #[.val (.long q1), .second, .val (.long q2), .second, .val (.int p3), .val (.int p4), .val (.long v2), .second, .unset, .unset, .unset, .unset, .unset, .unset, .unset, .unset, .unset, .unset, .unset, .unset, .unset, .unset, .unset, .unset, .unset, .unset, .unset, .unset, .unset] [])) tq → Steps p.tables e below (s₁.setTop (entryFrame m #[(.long q1), (.long q2), (.int p3), (.int p4)] maxLocals)) tq) := by
    refine ⟨_, rfl, fun tq kq => pre0 tq ?_⟩
    show Steps p.tables e below (s₁.setTop (mkF m 0 #[.val (.long q1), .second, .val (.long q2), .second, .val (.int p3), .val (.int p4), .unset, .unset, .unset, .unset, .unset, .unset, .unset, .unset, .unset, .unset, .unset, .unset, .unset, .unset, .unset, .unset, .unset, .unset, .unset, .unset, .unset, .unset, .unset] [])) _
    refine XS.lloadN X0.here hx rfl (hb hby at_0) rfl ?_
    show Steps p.tables e below (s₁.setTop (mkF m 1 #[.val (.long q1), .second, .val (.long q2), .second, .val (.int p3), .val (.int p4), .unset, .unset, .unset, .unset, .unset, .unset, .unset, .unset, .unset, .unset, .unset, .unset, .unset, .unset, .unset, .unset, .unset, .unset, .unset, .unset, .unset, .unset, .unset] [(.long q1)])) _
    refine XS.bipush X0.here hx rfl (hb hby at_1) ?_
    show Steps p.tables e below (s₁.setTop (mkF m 3 #[.val (.long q1), .second, .val (.long q2), .second, .val (.int p3), .val (.int p4), .unset, .unset, .unset, .unset, .unset, .unset, .unset, .unset, .unset, .unset, .unset, .unset, .unset, .unset, .unset, .unset, .unset, .unset, .unset, .unset, .unset, .unset, .unset] [(.int (11 : Int32)), (.long q1)])) _
    refine XS.lshr X0.here hx rfl (hb hby at_3) rfl ?_
    show Steps p.tables e below (s₁.setTop (mkF m 4 #[.val (.long q1), .second, .val (.long q2), .second, .val (.int p3), .val (.int p4), .unset, .unset, .unset, .unset, .unset, .unset, .unset, .unset, .unset, .unset, .unset, .unset, .unset, .unset, .unset, .unset, .unset, .unset, .unset, .unset, .unset, .unset, .unset] [(.long (q1 >>> ((11 : Int32) &&& 0x3f).toInt64))])) _
    refine XS.lstore X0.here hx rfl (hb hby at_4) rfl (l' := #[.val (.long q1), .second, .val (.long q2), .second, .val (.int p3), .val (.int p4), .val (.long (q1 >>> ((11 : Int32) &&& 0x3f).toInt64)), .second, .unset, .unset, .unset, .unset, .unset, .unset, .unset, .unset, .unset, .unset, .unset, .unset, .unset, .unset, .unset, .unset, .unset, .unset, .unset, .unset, .unset]) rfl ?_
    exact kq
  obtain ⟨v4, hv_v4, pre3⟩ : ∃ v4 : Int64, v4 = (q2 >>> ((11 : Int32) &&& 0x3f).toInt64) ∧ (∀ tq, Steps p.tables e below (s₁.setTop (mkF m 12 #[.val (.long q1), .second, .val (.long q2), .second, .val (.int p3), .val (.int p4), .val (.long v2), .second, .val (.long v4), .second, .unset, .unset, .unset, .unset, .unset, .unset, .unset, .unset, .unset, .unset, .unset, .unset, .unset, .unset, .unset, .unset, .unset, .unset, .unset] [])) tq → Steps p.tables e below (s₁.setTop (entryFrame m #[(.long q1), (.long q2), (.int p3), (.int p4)] maxLocals)) tq) := by
    refine ⟨_, rfl, fun tq kq => pre1 tq ?_⟩
    show Steps p.tables e below (s₁.setTop (mkF m 6 #[.val (.long q1), .second, .val (.long q2), .second, .val (.int p3), .val (.int p4), .val (.long v2), .second, .unset, .unset, .unset, .unset, .unset, .unset, .unset, .unset, .unset, .unset, .unset, .unset, .unset, .unset, .unset, .unset, .unset, .unset, .unset, .unset, .unset] [])) _
    refine XS.lloadN X0.here hx rfl (hb hby at_6) rfl ?_
    show Steps p.tables e below (s₁.setTop (mkF m 7 #[.val (.long q1), .second, .val (.long q2), .second, .val (.int p3), .val (.int p4), .val (.long v2), .second, .unset, .unset, .unset, .unset, .unset, .unset, .unset, .unset, .unset, .unset, .unset, .unset, .unset, .unset, .unset, .unset, .unset, .unset, .unset, .unset, .unset] [(.long q2)])) _
    refine XS.bipush X0.here hx rfl (hb hby at_7) ?_
    show Steps p.tables e below (s₁.setTop (mkF m 9 #[.val (.long q1), .second, .val (.long q2), .second, .val (.int p3), .val (.int p4), .val (.long v2), .second, .unset, .unset, .unset, .unset, .unset, .unset, .unset, .unset, .unset, .unset, .unset, .unset, .unset, .unset, .unset, .unset, .unset, .unset, .unset, .unset, .unset] [(.int (11 : Int32)), (.long q2)])) _
    refine XS.lshr X0.here hx rfl (hb hby at_9) rfl ?_
    show Steps p.tables e below (s₁.setTop (mkF m 10 #[.val (.long q1), .second, .val (.long q2), .second, .val (.int p3), .val (.int p4), .val (.long v2), .second, .unset, .unset, .unset, .unset, .unset, .unset, .unset, .unset, .unset, .unset, .unset, .unset, .unset, .unset, .unset, .unset, .unset, .unset, .unset, .unset, .unset] [(.long (q2 >>> ((11 : Int32) &&& 0x3f).toInt64))])) _
    refine XS.lstore X0.here hx rfl (hb hby at_10) rfl (l' := #[.val (.long q1), .second, .val (.long q2), .second, .val (.int p3), .val (.int p4), .val (.long v2), .second, .val (.long (q2 >>> ((11 : Int32) &&& 0x3f).toInt64)), .second, .unset, .unset, .unset, .unset, .unset, .unset, .unset, .unset, .unset, .unset, .unset, .unset, .unset, .unset, .unset, .unset, .unset, .unset, .unset]) rfl ?_
    exact kq
  obtain ⟨v6, hv_v6, pre5⟩ : ∃ v6 : Int32, v6 = ((p3 &&& (2147483647 : Int32)) - ((p3 &&& (2147483647 : Int32)) / (10 : Int32)) * (10 : Int32)) ∧ (∀ tq, Steps p.tables e below (s₁.setTop (mkF m 22 #[.val (.long q1), .second, .val (.long q2), .second, .val (.int p3), .val (.int p4), .val (.long v2), .second, .val (.long v4), .second, .val (.int v6), .unset, .unset, .unset, .unset, .unset, .unset, .unset, .unset, .unset, .unset, .unset, .unset, .unset, .unset, .unset, .unset, .unset, .unset] [])) tq → Steps p.tables e below (s₁.setTop (entryFrame m #[(.long q1), (.long q2), (.int p3), (.int p4)] maxLocals)) tq) := by
    refine ⟨_, rfl, fun tq kq => pre3 tq ?_⟩
    show Steps p.tables e below (s₁.setTop (mkF m 12 #[.val (.long q1), .second, .val (.long q2), .second, .val (.int p3), .val (.int p4), .val (.long v2), .second, .val (.long v4), .second, .unset, .unset, .unset, .unset, .unset, .unset, .unset, .unset, .unset, .unset, .unset, .unset, .unset, .unset, .unset, .unset, .unset, .unset, .unset] [])) _
    refine XS.iload X0.here hx rfl (hb hby at_12) rfl ?_
    show Steps p.tables e below (s₁.setTop (mkF m 14 #[.val (.long q1), .second, .val (.long q2), .second, .val (.int p3), .val (.int p4), .val (.long v2), .second, .val (.long v4), .second, .unset, .unset, .unset, .unset, .unset, .unset, .unset, .unset, .unset, .unset, .unset, .unset, .unset, .unset, .unset, .unset, .unset, .unset, .unset] [(.int p3)])) _
    refine X0.ldcInt hx hown (mvT hZ (hw _ (List.mem_of_getElem? (i := 0) rfl))) (g := (mkF m 14 #[.val (.long q1), .second, .val (.long q2), .second, .val (.int p3), .val (.int p4), .val (.long v2), .second, .val (.long v4), .second, .unset, .unset, .unset, .unset, .unset, .unset, .unset, .unset, .unset, .unset, .unset, .unset, .unset, .unset, .unset, .unset, .unset, .unset, .unset] [(.int p3)])) rfl (hb hby at_14) _ ?_
    show Steps p.tables e below (s₁.setTop (mkF m 16 #[.val (.long q1), .second, .val (.long q2), .second, .val (.int p3), .val (.int p4), .val (.long v2), .second, .val (.long v4), .second, .unset, .unset, .unset, .unset, .unset, .unset, .unset, .unset, .unset, .unset, .unset, .unset, .unset, .unset, .unset, .unset, .unset, .unset, .unset] [(.int (2147483647 : Int32)), (.int p3)])) _
    refine XS.iand X0.here hx rfl (hb hby at_16) rfl ?_
    show Steps p.tables e below (s₁.setTop (mkF m 17 #[.val (.long q1), .second, .val (.long q2), .second, .val (.int p3), .val (.int p4), .val (.long v2), .second, .val (.long v4), .second, .unset, .unset, .unset, .unset, .unset, .unset, .unset, .unset, .unset, .unset, .unset, .unset, .unset, .unset, .unset, .unset, .unset, .unset, .unset] [(.int (p3 &&& (2147483647 : Int32)))])) _
    refine XS.bipush X0.here hx rfl (hb hby at_17) ?_
    show Steps p.tables e below (s₁.setTop (mkF m 19 #[.val (.long q1), .second, .val (.long q2), .second, .val (.int p3), .val (.int p4), .val (.long v2), .second, .val (.long v4), .second, .unset, .unset, .unset, .unset, .unset, .unset, .unset, .unset, .unset, .unset, .unset, .unset, .unset, .unset, .unset, .unset, .unset, .unset, .unset] [(.int (10 : Int32)), (.int (p3 &&& (2147483647 : Int32)))])) _
    refine XS.irem X0.here hx rfl (hb hby at_19) rfl (by decide) ?_
    show Steps p.tables e below (s₁.setTop (mkF m 20 #[.val (.long q1), .second, .val (.long q2), .second, .val (.int p3), .val (.int p4), .val (.long v2), .second, .val (.long v4), .second, .unset, .unset, .unset, .unset, .unset, .unset, .unset, .unset, .unset, .unset, .unset, .unset, .unset, .unset, .unset, .unset, .unset, .unset, .unset] [(.int ((p3 &&& (2147483647 : Int32)) - ((p3 &&& (2147483647 : Int32)) / (10 : Int32)) * (10 : Int32)))])) _
    refine XS.istore X0.here hx rfl (hb hby at_20) rfl (l' := #[.val (.long q1), .second, .val (.long q2), .second, .val (.int p3), .val (.int p4), .val (.long v2), .second, .val (.long v4), .second, .val (.int ((p3 &&& (2147483647 : Int32)) - ((p3 &&& (2147483647 : Int32)) / (10 : Int32)) * (10 : Int32))), .unset, .unset, .unset, .unset, .unset, .unset, .unset, .unset, .unset, .unset, .unset, .unset, .unset, .unset, .unset, .unset, .unset, .unset]) rfl ?_
    exact kq
  obtain ⟨v8, hv_v8, pre7⟩ : ∃ v8 : Int64, v8 = ((1 : Int64) <<< (v6 &&& 0x3f).toInt64) ∧ (∀ tq, Steps p.tables e below (s₁.setTop (mkF m 28 #[.val (.long q1), .second, .val (.long q2), .second, .val (.int p3), .val (.int p4), .val (.long v2), .second, .val (.long v4), .second, .val (.int v6), .val (.long v8), .second, .unset, .unset, .unset, .unset, .unset, .unset, .unset, .unset, .unset, .unset, .unset, .unset, .unset, .unset, .unset, .unset] [])) tq → Steps p.tables e below (s₁.setTop (entryFrame m #[(.long q1), (.long q2), (.int p3), (.int p4)] maxLocals)) tq) := by
    refine ⟨_, rfl, fun tq kq => pre5 tq ?_⟩
    show Steps p.tables e below (s₁.setTop (mkF m 22 #[.val (.long q1), .second, .val (.long q2), .second, .val (.int p3), .val (.int p4), .val (.long v2), .second, .val (.long v4), .second, .val (.int v6), .unset, .unset, .unset, .unset, .unset, .unset, .unset, .unset, .unset, .unset, .unset, .unset, .unset, .unset, .unset, .unset, .unset, .unset] [])) _
    refine XS.lconst X0.here hx rfl (hb hby at_22) ?_
    show Steps p.tables e below (s₁.setTop (mkF m 23 #[.val (.long q1), .second, .val (.long q2), .second, .val (.int p3), .val (.int p4), .val (.long v2), .second, .val (.long v4), .second, .val (.int v6), .unset, .unset, .unset, .unset, .unset, .unset, .unset, .unset, .unset, .unset, .unset, .unset, .unset, .unset, .unset, .unset, .unset, .unset] [(.long (1 : Int64))])) _
    refine XS.iload X0.here hx rfl (hb hby at_23) rfl ?_
    show Steps p.tables e below (s₁.setTop (mkF m 25 #[.val (.long q1), .second, .val (.long q2), .second, .val (.int p3), .val (.int p4), .val (.long v2), .second, .val (.long v4), .second, .val (.int v6), .unset, .unset, .unset, .unset, .unset, .unset, .unset, .unset, .unset, .unset, .unset, .unset, .unset, .unset, .unset, .unset, .unset, .unset] [(.int v6), (.long (1 : Int64))])) _
    refine XS.lshl X0.here hx rfl (hb hby at_25) rfl ?_
    show Steps p.tables e below (s₁.setTop (mkF m 26 #[.val (.long q1), .second, .val (.long q2), .second, .val (.int p3), .val (.int p4), .val (.long v2), .second, .val (.long v4), .second, .val (.int v6), .unset, .unset, .unset, .unset, .unset, .unset, .unset, .unset, .unset, .unset, .unset, .unset, .unset, .unset, .unset, .unset, .unset, .unset] [(.long ((1 : Int64) <<< (v6 &&& 0x3f).toInt64))])) _
    refine XS.lstore X0.here hx rfl (hb hby at_26) rfl (l' := #[.val (.long q1), .second, .val (.long q2), .second, .val (.int p3), .val (.int p4), .val (.long v2), .second, .val (.long v4), .second, .val (.int v6), .val (.long ((1 : Int64) <<< (v6 &&& 0x3f).toInt64)), .second, .unset, .unset, .unset, .unset, .unset, .unset, .unset, .unset, .unset, .unset, .unset, .unset, .unset, .unset, .unset, .unset]) rfl ?_
    exact kq
  obtain ⟨jn, hj9, hw2, hwd, hsc⟩ := own_j hv_v6 hv_v8
  have hp52 := own_p hv_v2
  have hq52 := own_p hv_v4
  have hnn32 : Jvm.Free.Fl.NoNaN64 (FP.ddiv FP.dconst1 (FP.l2d v8)) := by exact own_D_nn hsc
  obtain ⟨v10, hv_v10, pre9⟩ : ∃ v10 : UInt64, v10 = (FP.ddiv FP.dconst1 (FP.l2d v8)) ∧ (∀ tq, Steps p.tables e below (s₁.setTop (mkF m 35 #[.val (.long q1), .second, .val (.long q2), .second, .val (.int p3), .val (.int p4), .val (.long v2), .second, .val (.long v4), .second, .val (.int v6), .val (.long v8), .second, .val (.double v10), .second, .unset, .unset, .unset, .unset, .unset, .unset, .unset, .unset, .unset, .unset, .unset, .unset, .unset, .unset] [])) tq → Steps p.tables e below (s₁.setTop (entryFrame m #[(.long q1), (.long q2), (.int p3), (.int p4)] maxLocals)) tq) := by
    refine ⟨_, rfl, fun tq kq => pre7 tq ?_⟩
    show Steps p.tables e below (s₁.setTop (mkF m 28 #[.val (.long q1), .second, .val (.long q2), .second, .val (.int p3), .val (.int p4), .val (.long v2), .second, .val (.long v4), .second, .val (.int v6), .val (.long v8), .second, .unset, .unset, .unset, .unset, .unset, .unset, .unset, .unset, .unset, .unset, .unset, .unset, .unset, .unset, .unset, .unset] [])) _
    refine XS.dconst1 X0.here hx rfl (hb hby at_28) rfl ?_
    show Steps p.tables e below (s₁.setTop (mkF m 29 #[.val (.long q1), .second, .val (.long q2), .second, .val (.int p3), .val (.int p4), .val (.long v2), .second, .val (.long v4), .second, .val (.int v6), .val (.long v8), .second, .unset, .unset, .unset, .unset, .unset, .unset, .unset, .unset, .unset, .unset, .unset, .unset, .unset, .unset, .unset, .unset] [(.double FP.dconst1)])) _
    refine XS.lload X0.here hx rfl (hb hby at_29) rfl ?_
    show Steps p.tables e below (s₁.setTop (mkF m 31 #[.val (.long q1), .second, .val (.long q2), .second, .val (.int p3), .val (.int p4), .val (.long v2), .second, .val (.long v4), .second, .val (.int v6), .val (.long v8), .second, .unset, .unset, .unset, .unset, .unset, .unset, .unset, .unset, .unset, .unset, .unset, .unset, .unset, .unset, .unset, .unset] [(.long v8), (.double FP.dconst1)])) _
    refine XS.l2dS X0.here hx rfl (hb hby at_31) rfl rfl ?_
    show Steps p.tables e below (s₁.setTop (mkF m 32 #[.val (.long q1), .second, .val (.long q2), .second, .val (.int p3), .val (.int p4), .val (.long v2), .second, .val (.long v4), .second, .val (.int v6), .val (.long v8), .second, .unset, .unset, .unset, .unset, .unset, .unset, .unset, .unset, .unset, .unset, .unset, .unset, .unset, .unset, .unset, .unset] [(.double (FP.l2d v8)), (.double FP.dconst1)])) _
    refine XS.ddivS X0.here hx rfl (hb hby at_32) rfl hnn32 rfl ?_
    show Steps p.tables e below (s₁.setTop (mkF m 33 #[.val (.long q1), .second, .val (.long q2), .second, .val (.int p3), .val (.int p4), .val (.long v2), .second, .val (.long v4), .second, .val (.int v6), .val (.long v8), .second, .unset, .unset, .unset, .unset, .unset, .unset, .unset, .unset, .unset, .unset, .unset, .unset, .unset, .unset, .unset, .unset] [(.double (FP.ddiv FP.dconst1 (FP.l2d v8)))])) _
    refine XS.dstore X0.here hx rfl (hb hby at_33) rfl (l' := #[.val (.long q1), .second, .val (.long q2), .second, .val (.int p3), .val (.int p4), .val (.long v2), .second, .val (.long v4), .second, .val (.int v6), .val (.long v8), .second, .val (.double (FP.ddiv FP.dconst1 (FP.l2d v8))), .second, .unset, .unset, .unset, .unset, .unset, .unset, .unset, .unset, .unset, .unset, .unset, .unset, .unset, .unset]) rfl ?_
    exact kq
  rw [← hv_v10] at hsc
  obtain ⟨v12, hv_v12, pre11⟩ : ∃ v12 : UInt64, v12 = (FP.l2d v2) ∧ (∀ tq, Steps p.tables e below (s₁.setTop (mkF m 40 #[.val (.long q1), .second, .val (.long q2), .second, .val (.int p3), .val (.int p4), .val (.long v2), .second, .val (.long v4), .second, .val (.int v6), .val (.long v8), .second, .val (.double v10), .second, .val (.double v12), .second, .unset, .unset, .unset, .unset, .unset, .unset, .unset, .unset, .unset, .unset, .unset, .unset] [])) tq → Steps p.tables e below (s₁.setTop (entryFrame m #[(.long q1), (.long q2), (.int p3), (.int p4)] maxLocals)) tq) := by
    refine ⟨_, rfl, fun tq kq => pre9 tq ?_⟩
    show Steps p.tables e below (s₁.setTop (mkF m 35 #[.val (.long q1), .second, .val (.long q2), .second, .val (.int p3), .val (.int p4), .val (.long v2), .second, .val (.long v4), .second, .val (.int v6), .val (.long v8), .second, .val (.double v10), .second, .unset, .unset, .unset, .unset, .unset, .unset, .unset, .unset, .unset, .unset, .unset, .unset, .unset, .unset] [])) _
    refine XS.lload X0.here hx rfl (hb hby at_35) rfl ?_
    show Steps p.tables e below (s₁.setTop (mkF m 37 #[.val (.long q1), .second, .val (.long q2), .second, .val (.int p3), .val (.int p4), .val (.long v2), .second, .val (.long v4), .second, .val (.int v6), .val (.long v8), .second, .val (.double v10), .second, .unset, .unset, .unset, .unset, .unset, .unset, .unset, .unset, .unset, .unset, .unset, .unset, .unset, .unset] [(.long v2)])) _
    refine XS.l2dS X0.here hx rfl (hb hby at_37) rfl rfl ?_
    show Steps p.tables e below (s₁.setTop (mkF m 38 #[.val (.long q1), .second, .val (.long q2), .second, .val (.int p3), .val (.int p4), .val (.long v2), .second, .val (.long v4), .second, .val (.int v6), .val (.long v8), .second, .val (.double v10), .second, .unset, .unset, .unset, .unset, .unset, .unset, .unset, .unset, .unset, .unset, .unset, .unset, .unset, .unset] [(.double (FP.l2d v2))])) _
    refine XS.dstore X0.here hx rfl (hb hby at_38) rfl (l' := #[.val (.long q1), .second, .val (.long q2), .second, .val (.int p3), .val (.int p4), .val (.long v2), .second, .val (.long v4), .second, .val (.int v6), .val (.long v8), .second, .val (.double v10), .second, .val (.double (FP.l2d v2)), .second, .unset, .unset, .unset, .unset, .unset, .unset, .unset, .unset, .unset, .unset, .unset, .unset]) rfl ?_
    exact kq
  have hA := own_a (jn := jn) hp52
  rw [← hv_v12] at hA
  have hnn45 : Jvm.Free.Fl.NoNaN64 (FP.dmul (FP.l2d v4) v10) := by exact own_D_nn (own_b hj9 (by omega) hsc)
  obtain ⟨v14, hv_v14, pre13⟩ : ∃ v14 : UInt64, v14 = (FP.dmul (FP.l2d v4) v10) ∧ (∀ tq, Steps p.tables e below (s₁.setTop (mkF m 48 #[.val (.long q1), .second, .val (.long q2), .second, .val (.int p3), .val (.int p4), .val (.long v2), .second, .val (.long v4), .second, .val (.int v6), .val (.long v8), .second, .val (.double v10), .second, .val (.double v12), .second, .val (.double v14), .second, .unset, .unset, .unset, .unset, .unset, .unset, .unset, .unset, .unset, .unset] [])) tq → Steps p.tables e below (s₁.setTop (entryFrame m #[(.long q1), (.long q2), (.int p3), (.int p4)] maxLocals)) tq) := by
    refine ⟨_, rfl, fun tq kq => pre11 tq ?_⟩
    show Steps p.tables e below (s₁.setTop (mkF m 40 #[.val (.long q1), .second, .val (.long q2), .second, .val (.int p3), .val (.int p4), .val (.long v2), .second, .val (.long v4), .second, .val (.int v6), .val (.long v8), .second, .val (.double v10), .second, .val (.double v12), .second, .unset, .unset, .unset, .unset, .unset, .unset, .unset, .unset, .unset, .unset, .unset, .unset] [])) _
    refine XS.lload X0.here hx rfl (hb hby at_40) rfl ?_
    show Steps p.tables e below (s₁.setTop (mkF m 42 #[.val (.long q1), .second, .val (.long q2), .second, .val (.int p3), .val (.int p4), .val (.long v2), .second, .val (.long v4), .second, .val (.int v6), .val (.long v8), .second, .val (.double v10), .second, .val (.double v12), .second, .unset, .unset, .unset, .unset, .unset, .unset, .unset, .unset, .unset, .unset, .unset, .unset] [(.long v4)])) _
    refine XS.l2dS X0.here hx rfl (hb hby at_42) rfl rfl ?_
    show Steps p.tables e below (s₁.setTop (mkF m 43 #[.val (.long q1), .second, .val (.long q2), .second, .val (.int p3), .val (.int p4), .val (.long v2), .second, .val (.long v4), .second, .val (.int v6), .val (.long v8), .second, .val (.double v10), .second, .val (.double v12), .second, .unset, .unset, .unset, .unset, .unset, .unset, .unset, .unset, .unset, .unset, .unset, .unset] [(.double (FP.l2d v4))])) _
    refine XS.dload X0.here hx rfl (hb hby at_43) rfl ?_
    show Steps p.tables e below (s₁.setTop (mkF m 45 #[.val (.long q1), .second, .val (.long q2), .second, .val (.int p3), .val (.int p4), .val (.long v2), .second, .val (.long v4), .second, .val (.int v6), .val (.long v8), .second, .val (.double v10), .second, .val (.double v12), .second, .unset, .unset, .unset, .unset, .unset, .unset, .unset, .unset, .unset, .unset, .unset, .unset] [(.double v10), (.double (FP.l2d v4))])) _
    refine XS.dmulS X0.here hx rfl (hb hby at_45) rfl hnn45 rfl ?_
    show Steps p.tables e below (s₁.setTop (mkF m 46 #[.val (.long q1), .second, .val (.long q2), .second, .val (.int p3), .val (.int p4), .val (.long v2), .second, .val (.long v4), .second, .val (.int v6), .val (.long v8), .second, .val (.double v10), .second, .val (.double v12), .second, .unset, .unset, .unset, .unset, .unset, .unset, .unset, .unset, .unset, .unset, .unset, .unset] [(.double (FP.dmul (FP.l2d v4) v10))])) _
    refine XS.dstore X0.here hx rfl (hb hby at_46) rfl (l' := #[.val (.long q1), .second, .val (.long q2), .second, .val (.int p3), .val (.int p4), .val (.long v2), .second, .val (.long v4), .second, .val (.int v6), .val (.long v8), .second, .val (.double v10), .second, .val (.double v12), .second, .val (.double (FP.dmul (FP.l2d v4) v10)), .second, .unset, .unset, .unset, .unset, .unset, .unset, .unset, .unset, .unset, .unset]) rfl ?_
    exact kq
  have hB := own_b (q := v4) hj9 (by omega) hsc
  rw [← hv_v14] at hB
  obtain ⟨S, dd, hS, hrep, hdd, hd5, hok1, hok2⟩ := own_two hj9 hp52 hq52 hA hB
  have hnn52 : Jvm.Free.Fl.NoNaN64 (FP.dadd v12 v14) := by exact own_D_nn hS
  obtain ⟨v16, hv_v16, pre15⟩ : ∃ v16 : UInt64, v16 = (FP.dadd v12 v14) ∧ (∀ tq, Steps p.tables e below (s₁.setTop (mkF m 55 #[.val (.long q1), .second, .val (.long q2), .second, .val (.int p3), .val (.int p4), .val (.long v2), .second, .val (.long v4), .second, .val (.int v6), .val (.long v8), .second, .val (.double v10), .second, .val (.double v12), .second, .val (.double v14), .second, .val (.double v16), .second, .unset, .unset, .unset, .unset, .unset, .unset, .unset, .unset] [])) tq → Steps p.tables e below (s₁.setTop (entryFrame m #[(.long q1), (.long q2), (.int p3), (.int p4)] maxLocals)) tq) := by
    refine ⟨_, rfl, fun tq kq => pre13 tq ?_⟩
    show Steps p.tables e below (s₁.setTop (mkF m 48 #[.val (.long q1), .second, .val (.long q2), .second, .val (.int p3), .val (.int p4), .val (.long v2), .second, .val (.long v4), .second, .val (.int v6), .val (.long v8), .second, .val (.double v10), .second, .val (.double v12), .second, .val (.double v14), .second, .unset, .unset, .unset, .unset, .unset, .unset, .unset, .unset, .unset, .unset] [])) _
    refine XS.dload X0.here hx rfl (hb hby at_48) rfl ?_
    show Steps p.tables e below (s₁.setTop (mkF m 50 #[.val (.long q1), .second, .val (.long q2), .second, .val (.int p3), .val (.int p4), .val (.long v2), .second, .val (.long v4), .second, .val (.int v6), .val (.long v8), .second, .val (.double v10), .second, .val (.double v12), .second, .val (.double v14), .second, .unset, .unset, .unset, .unset, .unset, .unset, .unset, .unset, .unset, .unset] [(.double v12)])) _
    refine XS.dload X0.here hx rfl (hb hby at_50) rfl ?_
    show Steps p.tables e below (s₁.setTop (mkF m 52 #[.val (.long q1), .second, .val (.long q2), .second, .val (.int p3), .val (.int p4), .val (.long v2), .second, .val (.long v4), .second, .val (.int v6), .val (.long v8), .second, .val (.double v10), .second, .val (.double v12), .second, .val (.double v14), .second, .unset, .unset, .unset, .unset, .unset, .unset, .unset, .unset, .unset, .unset] [(.double v14), (.double v12)])) _
    refine XS.daddS X0.here hx rfl (hb hby at_52) rfl hnn52 rfl ?_
    show Steps p.tables e below (s₁.setTop (mkF m 53 #[.val (.long q1), .second, .val (.long q2), .second, .val (.int p3), .val (.int p4), .val (.long v2), .second, .val (.long v4), .second, .val (.int v6), .val (.long v8), .second, .val (.double v10), .second, .val (.double v12), .second, .val (.double v14), .second, .unset, .unset, .unset, .unset, .unset, .unset, .unset, .unset, .unset, .unset] [(.double (FP.dadd v12 v14))])) _
    refine XS.dstore X0.here hx rfl (hb hby at_53) rfl (l' := #[.val (.long q1), .second, .val (.long q2), .second, .val (.int p3), .val (.int p4), .val (.long v2), .second, .val (.long v4), .second, .val (.int v6), .val (.long v8), .second, .val (.double v10), .second, .val (.double v12), .second, .val (.double v14), .second, .val (.double (FP.dadd v12 v14)), .second, .unset, .unset, .unset, .unset, .unset, .unset, .unset, .unset]) rfl ?_
    exact kq
  rw [← hv_v16] at hS hok1 hok2
  have hS0 := own_s hS hrep (own_S63 hj9 hp52 hq52 hdd hd5) hwd
  have pre17 : ∀ tq, Steps p.tables e below (s₁.setTop (mkF m 59 #[.val (.long q1), .second, .val (.long q2), .second, .val (.int p3), .val (.int p4), .val (.long v2), .second, .val (.long v4), .second, .val (.int v6), .val (.long v8), .second, .val (.double v10), .second, .val (.double v12), .second, .val (.double v14), .second, .val (.double v16), .second, .unset, .unset, .unset, .unset, .unset, .unset, .unset, .unset] [(.int (p4 &&& (1 : Int32)))])) tq → Steps p.tables e below (s₁.setTop (entryFrame m #[(.long q1), (.long q2), (.int p3), (.int p4)] maxLocals)) tq := by
    refine fun tq kq => pre15 tq ?_
    show Steps p.tables e below (s₁.setTop (mkF m 55 #[.val (.long q1), .second, .val (.long q2), .second, .val (.int p3), .val (.int p4), .val (.long v2), .second, .val (.long v4), .second, .val (.int v6), .val (.long v8), .second, .val (.double v10), .second, .val (.double v12), .second, .val (.double v14), .second, .val (.double v16), .second, .unset, .unset, .unset, .unset, .unset, .unset, .unset, .unset] [])) _
    refine XS.iload X0.here hx rfl (hb hby at_55) rfl ?_
    show Steps p.tables e below (s₁.setTop (mkF m 57 #[.val (.long q1), .second, .val (.long q2), .second, .val (.int p3), .val (.int p4), .val (.long v2), .second, .val (.long v4), .second, .val (.int v6), .val (.long v8), .second, .val (.double v10), .second, .val (.double v12), .second, .val (.double v14), .second, .val (.double v16), .second, .unset, .unset, .unset, .unset, .unset, .unset, .unset, .unset] [(.int p4)])) _
    refine XS.iconst X0.here hx rfl (hb hby at_57) ?_
    show Steps p.tables e below (s₁.setTop (mkF m 58 #[.val (.long q1), .second, .val (.long q2), .second, .val (.int p3), .val (.int p4), .val (.long v2), .second, .val (.long v4), .second, .val (.int v6), .val (.long v8), .second, .val (.double v10), .second, .val (.double v12), .second, .val (.double v14), .second, .val (.double v16), .second, .unset, .unset, .unset, .unset, .unset, .unset, .unset, .unset] [(.int (1 : Int32)), (.int p4)])) _
    refine XS.iand X0.here hx rfl (hb hby at_58) rfl ?_
    exact kq
  by_cases hc59 : (p4 &&& (1 : Int32)) = (0 : Int32)
  · skip
    have pre18 : ∀ tq, Steps p.tables e below (s₁.setTop (mkF m 74 #[.val (.long q1), .second, .val (.long q2), .second, .val (.int p3), .val (.int p4), .val (.long v2), .second, .val (.long v4), .second, .val (.int v6), .val (.long v8), .second, .val (.double v10), .second, .val (.double v12), .second, .val (.double v14), .second, .val (.double v16), .second, .unset, .unset, .unset, .unset, .unset, .unset, .unset, .unset] [])) tq → Steps p.tables e below (s₁.setTop (entryFrame m #[(.long q1), (.long q2), (.int p3), (.int p4)] maxLocals)) tq := by
      refine fun tq kq => pre17 tq ?_
      show Steps p.tables e below (s₁.setTop (mkF m 59 #[.val (.long q1), .second, .val (.long q2), .second, .val (.int p3), .val (.int p4), .val (.long v2), .second, .val (.long v4), .second, .val (.int v6), .val (.long v8), .second, .val (.double v10), .second, .val (.double v12), .second, .val (.double v14), .second, .val (.double v16), .second, .unset, .unset, .unset, .unset, .unset, .unset, .unset, .unset] [(.int (p4 &&& (1 : Int32)))])) _
      refine XS.ifYes X0.here hx rfl (pc0 := 59) (pc' := 74) rfl (hb hby at_59) rfl ((if0 _ _).trans (teq hc59).1) (by decide) (by decide) ?_
      exact kq
    have pre19 : ∀ tq, Steps p.tables e below (s₁.setTop (mkF m 80 #[.val (.long q1), .second, .val (.long q2), .second, .val (.int p3), .val (.int p4), .val (.long v2), .second, .val (.long v4), .second, .val (.int v6), .val (.long v8), .second, .val (.double v10), .second, .val (.double v12), .second, .val (.double v14), .second, .val (.double v16), .second, .unset, .unset, .unset, .unset, .unset, .unset, .unset, .unset] [(.double v16), (.double v14), (.double v12)])) tq → Steps p.tables e below (s₁.setTop (entryFrame m #[(.long q1), (.long q2), (.int p3), (.int p4)] maxLocals)) tq := by
      refine fun tq kq => pre18 tq ?_
      show Steps p.tables e below (s₁.setTop (mkF m 74 #[.val (.long q1), .second, .val (.long q2), .second, .val (.int p3), .val (.int p4), .val (.long v2), .second, .val (.long v4), .second, .val (.int v6), .val (.long v8), .second, .val (.double v10), .second, .val (.double v12), .second, .val (.double v14), .second, .val (.double v16), .second, .unset, .unset, .unset, .unset, .unset, .unset, .unset, .unset] [])) _
      refine XS.dload X0.here hx rfl (hb hby at_74) rfl ?_
      show Steps p.tables e below (s₁.setTop (mkF m 76 #[.val (.long q1), .second, .val (.long q2), .second, .val (.int p3), .val (.int p4), .val (.long v2), .second, .val (.long v4), .second, .val (.int v6), .val (.long v8), .second, .val (.double v10), .second, .val (.double v12), .second, .val (.double v14), .second, .val (.double v16), .second, .unset, .unset, .unset, .unset, .unset, .unset, .unset, .unset] [(.double v12)])) _
      refine XS.dload X0.here hx rfl (hb hby at_76) rfl ?_
      show Steps p.tables e below (s₁.setTop (mkF m 78 #[.val (.long q1), .second, .val (.long q2), .second, .val (.int p3), .val (.int p4), .val (.long v2), .second, .val (.long v4), .second, .val (.int v6), .val (.long v8), .second, .val (.double v10), .second, .val (.double v12), .second, .val (.double v14), .second, .val (.double v16), .second, .unset, .unset, .unset, .unset, .unset, .unset, .unset, .unset] [(.double v14), (.double v12)])) _
      refine XS.dload X0.here hx rfl (hb hby at_78) rfl ?_
      exact kq
    have Z20 : n0 ≤ h0.size := Z0
    obtain ⟨_, _, ⟨T20, L20, k20, n20⟩, -, X20, ⟨Lc20, hQ20, l20, y20, z20⟩, st20⟩ := Jvm.LawKit.callS X0 hx (y := (⟨"com/example/locatree/locatree/core/Rounding", "ofSum", "(DDD)D"⟩ : MethodName)) hown (mvT hZ (hw _ (List.mem_of_getElem? (i := 1) rfl))) (mvT hZ (hw _ (List.mem_of_getElem? (i := 2) rfl))) (mvT hZ (hw _ (List.mem_of_getElem? (i := 3) rfl))) (mvT hZ (hw _ (List.mem_of_getElem? (i := 4) rfl))) (by decide) (backOf (W := 0) (rm1 l Z a0 hw [] v12 v14 v16 jn dd h0 n0 Z20 (hok1)) hZ (hw _ (List.mem_of_getElem? (i := 4) rfl)) (hw _ (List.mem_of_getElem? (i := 3) rfl)) (by decide) (by decide)) (g := (mkF m 80 #[.val (.long q1), .second, .val (.long q2), .second, .val (.int p3), .val (.int p4), .val (.long v2), .second, .val (.long v4), .second, .val (.int v6), .val (.long v8), .second, .val (.double v10), .second, .val (.double v12), .second, .val (.double v14), .second, .val (.double v16), .second, .unset, .unset, .unset, .unset, .unset, .unset, .unset, .unset] [(.double v16), (.double v14), (.double v12)])) rfl (by rw [hml]; rfl) (argsL := [(.double v12), (.double v14), (.double v16)]) (rest := []) (lenOf pd0_0 rfl) rfl (by show 2 * 0 + _ ≤ _; exact Nat.le_of_eq rfl) (hb hby at_80) (fun _ _ => ⟨rfl, e0, (by decide : 0 + 0 ≤ _), (by decide : 0 + 0 ≤ _)⟩)
    dsimp only [Pt.U, Pt.locs, Pt.cells, Pt.slots] at X20 l20 y20 z20 st20 hQ20
    subst l20 y20 z20
    obtain ⟨r21, rfl, Nq20, ehq20, hq20⟩ := hQ20
    have N20 := Fr.app N0 Nq20
    have pre22 : ∀ tq, Steps p.tables e below (T20.setTop (mkF m 83 #[.val (.long q1), .second, .val (.long q2), .second, .val (.int p3), .val (.int p4), .val (.long v2), .second, .val (.long v4), .second, .val (.int v6), .val (.long v8), .second, .val (.double v10), .second, .val (.double v12), .second, .val (.double v14), .second, .val (.double v16), .second, .unset, .unset, .unset, .unset, .unset, .unset, .unset, .unset] [(.double r21)])) tq → Steps p.tables e below (s₁.setTop (entryFrame m #[(.long q1), (.long q2), (.int p3), (.int p4)] maxLocals)) tq := fun tq kq => pre19 tq (st20 _ kq)
    have hR := hq20
    obtain ⟨v24, hv_v24, pre23⟩ : ∃ v24 : Int64, v24 = ((v2 * v8) + v4) ∧ (∀ tq, Steps p.tables e below (T20.setTop (mkF m 95 #[.val (.long q1), .second, .val (.long q2), .second, .val (.int p3), .val (.int p4), .val (.long v2), .second, .val (.long v4), .second, .val (.int v6), .val (.long v8), .second, .val (.double v10), .second, .val (.double v12), .second, .val (.double v14), .second, .val (.double v16), .second, .val (.double r21), .second, .val (.long v24), .second, .unset, .unset, .unset, .unset] [])) tq → Steps p.tables e below (s₁.setTop (entryFrame m #[(.long q1), (.long q2), (.int p3), (.int p4)] maxLocals)) tq) := by
      refine ⟨_, rfl, fun tq kq => pre22 tq ?_⟩
      show Steps p.tables e below (T20.setTop (mkF m 83 #[.val (.long q1), .second, .val (.long q2), .second, .val (.int p3), .val (.int p4), .val (.long v2), .second, .val (.long v4), .second, .val (.int v6), .val (.long v8), .second, .val (.double v10), .second, .val (.double v12), .second, .val (.double v14), .second, .val (.double v16), .second, .unset, .unset, .unset, .unset, .unset, .unset, .unset, .unset] [(.double r21)])) _
      refine XS.dstore X20.here hx rfl (hb hby at_83) rfl (l' := #[.val (.long q1), .second, .val (.long q2), .second, .val (.int p3), .val (.int p4), .val (.long v2), .second, .val (.long v4), .second, .val (.int v6), .val (.long v8), .second, .val (.double v10), .second, .val (.double v12), .second, .val (.double v14), .second, .val (.double v16), .second, .val (.double r21), .second, .unset, .unset, .unset, .unset, .unset, .unset]) rfl ?_
      show Steps p.tables e below (T20.setTop (mkF m 85 #[.val (.long q1), .second, .val (.long q2), .second, .val (.int p3), .val (.int p4), .val (.long v2), .second, .val (.long v4), .second, .val (.int v6), .val (.long v8), .second, .val (.double v10), .second, .val (.double v12), .second, .val (.double v14), .second, .val (.double v16), .second, .val (.double r21), .second, .unset, .unset, .unset, .unset, .unset, .unset] [])) _
      refine XS.lload X20.here hx rfl (hb hby at_85) rfl ?_
      show Steps p.tables e below (T20.setTop (mkF m 87 #[.val (.long q1), .second, .val (.long q2), .second, .val (.int p3), .val (.int p4), .val (.long v2), .second, .val (.long v4), .second, .val (.int v6), .val (.long v8), .second, .val (.double v10), .second, .val (.double v12), .second, .val (.double v14), .second, .val (.double v16), .second, .val (.double r21), .second, .unset, .unset, .unset, .unset, .unset, .unset] [(.long v2)])) _
      refine XS.lload X20.here hx rfl (hb hby at_87) rfl ?_
      show Steps p.tables e below (T20.setTop (mkF m 89 #[.val (.long q1), .second, .val (.long q2), .second, .val (.int p3), .val (.int p4), .val (.long v2), .second, .val (.long v4), .second, .val (.int v6), .val (.long v8), .second, .val (.double v10), .second, .val (.double v12), .second, .val (.double v14), .second, .val (.double v16), .second, .val (.double r21), .second, .unset, .unset, .unset, .unset, .unset, .unset] [(.long v8), (.long v2)])) _
      refine XS.lmul X20.here hx rfl (hb hby at_89) rfl ?_
      show Steps p.tables e below (T20.setTop (mkF m 90 #[.val (.long q1), .second, .val (.long q2), .second, .val (.int p3), .val (.int p4), .val (.long v2), .second, .val (.long v4), .second, .val (.int v6), .val (.long v8), .second, .val (.double v10), .second, .val (.double v12), .second, .val (.double v14), .second, .val (.double v16), .second, .val (.double r21), .second, .unset, .unset, .unset, .unset, .unset, .unset] [(.long (v2 * v8))])) _
      refine XS.lload X20.here hx rfl (hb hby at_90) rfl ?_
      show Steps p.tables e below (T20.setTop (mkF m 92 #[.val (.long q1), .second, .val (.long q2), .second, .val (.int p3), .val (.int p4), .val (.long v2), .second, .val (.long v4), .second, .val (.int v6), .val (.long v8), .second, .val (.double v10), .second, .val (.double v12), .second, .val (.double v14), .second, .val (.double v16), .second, .val (.double r21), .second, .unset, .unset, .unset, .unset, .unset, .unset] [(.long v4), (.long (v2 * v8))])) _
      refine XS.ladd X20.here hx rfl (hb hby at_92) rfl ?_
      show Steps p.tables e below (T20.setTop (mkF m 93 #[.val (.long q1), .second, .val (.long q2), .second, .val (.int p3), .val (.int p4), .val (.long v2), .second, .val (.long v4), .second, .val (.int v6), .val (.long v8), .second, .val (.double v10), .second, .val (.double v12), .second, .val (.double v14), .second, .val (.double v16), .second, .val (.double r21), .second, .unset, .unset, .unset, .unset, .unset, .unset] [(.long ((v2 * v8) + v4))])) _
      refine XS.lstore X20.here hx rfl (hb hby at_93) rfl (l' := #[.val (.long q1), .second, .val (.long q2), .second, .val (.int p3), .val (.int p4), .val (.long v2), .second, .val (.long v4), .second, .val (.int v6), .val (.long v8), .second, .val (.double v10), .second, .val (.double v12), .second, .val (.double v14), .second, .val (.double v16), .second, .val (.double r21), .second, .val (.long ((v2 * v8) + v4)), .second, .unset, .unset, .unset, .unset]) rfl ?_
      exact kq
    have hnn100 : Jvm.Free.Fl.NoNaN64 (FP.dmul v16 (FP.l2d v8)) := by exact own_D_nn hS0
    obtain ⟨v26, hv_v26, pre25⟩ : ∃ v26 : Int64, v26 = (FP.d2l (FP.dmul v16 (FP.l2d v8))) ∧ (∀ tq, Steps p.tables e below (T20.setTop (mkF m 104 #[.val (.long q1), .second, .val (.long q2), .second, .val (.int p3), .val (.int p4), .val (.long v2), .second, .val (.long v4), .second, .val (.int v6), .val (.long v8), .second, .val (.double v10), .second, .val (.double v12), .second, .val (.double v14), .second, .val (.double v16), .second, .val (.double r21), .second, .val (.long v24), .second, .val (.long v26), .second, .unset, .unset] [])) tq → Steps p.tables e below (s₁.setTop (entryFrame m #[(.long q1), (.long q2), (.int p3), (.int p4)] maxLocals)) tq) := by
      refine ⟨_, rfl, fun tq kq => pre23 tq ?_⟩
      show Steps p.tables e below (T20.setTop (mkF m 95 #[.val (.long q1), .second, .val (.long q2), .second, .val (.int p3), .val (.int p4), .val (.long v2), .second, .val (.long v4), .second, .val (.int v6), .val (.long v8), .second, .val (.double v10), .second, .val (.double v12), .second, .val (.double v14), .second, .val (.double v16), .second, .val (.double r21), .second, .val (.long v24), .second, .unset, .unset, .unset, .unset] [])) _
      refine XS.dload X20.here hx rfl (hb hby at_95) rfl ?_
      show Steps p.tables e below (T20.setTop (mkF m 97 #[.val (.long q1), .second, .val (.long q2), .second, .val (.int p3), .val (.int p4), .val (.long v2), .second, .val (.long v4), .second, .val (.int v6), .val (.long v8), .second, .val (.double v10), .second, .val (.double v12), .second, .val (.double v14), .second, .val (.double v16), .second, .val (.double r21), .second, .val (.long v24), .second, .unset, .unset, .unset, .unset] [(.double v16)])) _
      refine XS.lload X20.here hx rfl (hb hby at_97) rfl ?_
      show Steps p.tables e below (T20.setTop (mkF m 99 #[.val (.long q1), .second, .val (.long q2), .second, .val (.int p3), .val (.int p4), .val (.long v2), .second, .val (.long v4), .second, .val (.int v6), .val (.long v8), .second, .val (.double v10), .second, .val (.double v12), .second, .val (.double v14), .second, .val (.double v16), .second, .val (.double r21), .second, .val (.long v24), .second, .unset, .unset, .unset, .unset] [(.long v8), (.double v16)])) _
      refine XS.l2dS X20.here hx rfl (hb hby at_99) rfl rfl ?_
      show Steps p.tables e below (T20.setTop (mkF m 100 #[.val (.long q1), .second, .val (.long q2), .second, .val (.int p3), .val (.int p4), .val (.long v2), .second, .val (.long v4), .second, .val (.int v6), .val (.long v8), .second, .val (.double v10), .second, .val (.double v12), .second, .val (.double v14), .second, .val (.double v16), .second, .val (.double r21), .second, .val (.long v24), .second, .unset, .unset, .unset, .unset] [(.double (FP.l2d v8)), (.double v16)])) _
      refine XS.dmulS X20.here hx rfl (hb hby at_100) rfl hnn100 rfl ?_
      show Steps p.tables e below (T20.setTop (mkF m 101 #[.val (.long q1), .second, .val (.long q2), .second, .val (.int p3), .val (.int p4), .val (.long v2), .second, .val (.long v4), .second, .val (.int v6), .val (.long v8), .second, .val (.double v10), .second, .val (.double v12), .second, .val (.double v14), .second, .val (.double v16), .second, .val (.double r21), .second, .val (.long v24), .second, .unset, .unset, .unset, .unset] [(.double (FP.dmul v16 (FP.l2d v8)))])) _
      refine XS.d2lS X20.here hx rfl (hb hby at_101) rfl rfl ?_
      show Steps p.tables e below (T20.setTop (mkF m 102 #[.val (.long q1), .second, .val (.long q2), .second, .val (.int p3), .val (.int p4), .val (.long v2), .second, .val (.long v4), .second, .val (.int v6), .val (.long v8), .second, .val (.double v10), .second, .val (.double v12), .second, .val (.double v14), .second, .val (.double v16), .second, .val (.double r21), .second, .val (.long v24), .second, .unset, .unset, .unset, .unset] [(.long (FP.d2l (FP.dmul v16 (FP.l2d v8))))])) _
      refine XS.lstore X20.here hx rfl (hb hby at_102) rfl (l' := #[.val (.long q1), .second, .val (.long q2), .second, .val (.int p3), .val (.int p4), .val (.long v2), .second, .val (.long v4), .second, .val (.int v6), .val (.long v8), .second, .val (.double v10), .second, .val (.double v12), .second, .val (.double v14), .second, .val (.double v16), .second, .val (.double r21), .second, .val (.long v24), .second, .val (.long (FP.d2l (FP.dmul v16 (FP.l2d v8)))), .second, .unset, .unset]) rfl ?_
      exact kq
    have hdl := own_last hj9 hp52 hq52 hw2 hdd hd5 hS0 hv_v24 hv_v26
    have hE := own_b (q := v24 - v26) hj9 (by rw [hdl]; omega) hsc
    rw [hdl] at hE
    have hnn112 : Jvm.Free.Fl.NoNaN64 (FP.dmul (FP.l2d (v24 - v26)) v10) := by exact own_D_nn hE
    obtain ⟨v28, hv_v28, pre27⟩ : ∃ v28 : UInt64, v28 = (FP.dmul (FP.l2d (v24 - v26)) v10) ∧ (∀ tq, Steps p.tables e below (T20.setTop (mkF m 115 #[.val (.long q1), .second, .val (.long q2), .second, .val (.int p3), .val (.int p4), .val (.long v2), .second, .val (.long v4), .second, .val (.int v6), .val (.long v8), .second, .val (.double v10), .second, .val (.double v12), .second, .val (.double v14), .second, .val (.double v16), .second, .val (.double r21), .second, .val (.long v24), .second, .val (.long v26), .second, .val (.double v28), .second] [])) tq → Steps p.tables e below (s₁.setTop (entryFrame m #[(.long q1), (.long q2), (.int p3), (.int p4)] maxLocals)) tq) := by
      refine ⟨_, rfl, fun tq kq => pre25 tq ?_⟩
      show Steps p.tables e below (T20.setTop (mkF m 104 #[.val (.long q1), .second, .val (.long q2), .second, .val (.int p3), .val (.int p4), .val (.long v2), .second, .val (.long v4), .second, .val (.int v6), .val (.long v8), .second, .val (.double v10), .second, .val (.double v12), .second, .val (.double v14), .second, .val (.double v16), .second, .val (.double r21), .second, .val (.long v24), .second, .val (.long v26), .second, .unset, .unset] [])) _
      refine XS.lload X20.here hx rfl (hb hby at_104) rfl ?_
      show Steps p.tables e below (T20.setTop (mkF m 106 #[.val (.long q1), .second, .val (.long q2), .second, .val (.int p3), .val (.int p4), .val (.long v2), .second, .val (.long v4), .second, .val (.int v6), .val (.long v8), .second, .val (.double v10), .second, .val (.double v12), .second, .val (.double v14), .second, .val (.double v16), .second, .val (.double r21), .second, .val (.long v24), .second, .val (.long v26), .second, .unset, .unset] [(.long v24)])) _
      refine XS.lload X20.here hx rfl (hb hby at_106) rfl ?_
      show Steps p.tables e below (T20.setTop (mkF m 108 #[.val (.long q1), .second, .val (.long q2), .second, .val (.int p3), .val (.int p4), .val (.long v2), .second, .val (.long v4), .second, .val (.int v6), .val (.long v8), .second, .val (.double v10), .second, .val (.double v12), .second, .val (.double v14), .second, .val (.double v16), .second, .val (.double r21), .second, .val (.long v24), .second, .val (.long v26), .second, .unset, .unset] [(.long v26), (.long v24)])) _
      refine XS.lsub X20.here hx rfl (hb hby at_108) rfl ?_
      show Steps p.tables e below (T20.setTop (mkF m 109 #[.val (.long q1), .second, .val (.long q2), .second, .val (.int p3), .val (.int p4), .val (.long v2), .second, .val (.long v4), .second, .val (.int v6), .val (.long v8), .second, .val (.double v10), .second, .val (.double v12), .second, .val (.double v14), .second, .val (.double v16), .second, .val (.double r21), .second, .val (.long v24), .second, .val (.long v26), .second, .unset, .unset] [(.long (v24 - v26))])) _
      refine XS.l2dS X20.here hx rfl (hb hby at_109) rfl rfl ?_
      show Steps p.tables e below (T20.setTop (mkF m 110 #[.val (.long q1), .second, .val (.long q2), .second, .val (.int p3), .val (.int p4), .val (.long v2), .second, .val (.long v4), .second, .val (.int v6), .val (.long v8), .second, .val (.double v10), .second, .val (.double v12), .second, .val (.double v14), .second, .val (.double v16), .second, .val (.double r21), .second, .val (.long v24), .second, .val (.long v26), .second, .unset, .unset] [(.double (FP.l2d (v24 - v26)))])) _
      refine XS.dload X20.here hx rfl (hb hby at_110) rfl ?_
      show Steps p.tables e below (T20.setTop (mkF m 112 #[.val (.long q1), .second, .val (.long q2), .second, .val (.int p3), .val (.int p4), .val (.long v2), .second, .val (.long v4), .second, .val (.int v6), .val (.long v8), .second, .val (.double v10), .second, .val (.double v12), .second, .val (.double v14), .second, .val (.double v16), .second, .val (.double r21), .second, .val (.long v24), .second, .val (.long v26), .second, .unset, .unset] [(.double v10), (.double (FP.l2d (v24 - v26)))])) _
      refine XS.dmulS X20.here hx rfl (hb hby at_112) rfl hnn112 rfl ?_
      show Steps p.tables e below (T20.setTop (mkF m 113 #[.val (.long q1), .second, .val (.long q2), .second, .val (.int p3), .val (.int p4), .val (.long v2), .second, .val (.long v4), .second, .val (.int v6), .val (.long v8), .second, .val (.double v10), .second, .val (.double v12), .second, .val (.double v14), .second, .val (.double v16), .second, .val (.double r21), .second, .val (.long v24), .second, .val (.long v26), .second, .unset, .unset] [(.double (FP.dmul (FP.l2d (v24 - v26)) v10))])) _
      refine XS.dstore X20.here hx rfl (hb hby at_113) rfl (l' := #[.val (.long q1), .second, .val (.long q2), .second, .val (.int p3), .val (.int p4), .val (.long v2), .second, .val (.long v4), .second, .val (.int v6), .val (.long v8), .second, .val (.double v10), .second, .val (.double v12), .second, .val (.double v14), .second, .val (.double v16), .second, .val (.double r21), .second, .val (.long v24), .second, .val (.long v26), .second, .val (.double (FP.dmul (FP.l2d (v24 - v26)) v10)), .second]) rfl ?_
      exact kq
    rw [← hv_v28] at hE
    have pre29 : ∀ tq, Steps p.tables e below (T20.setTop (mkF m 123 #[.val (.long q1), .second, .val (.long q2), .second, .val (.int p3), .val (.int p4), .val (.long v2), .second, .val (.long v4), .second, .val (.int v6), .val (.long v8), .second, .val (.double v10), .second, .val (.double v12), .second, .val (.double v14), .second, .val (.double v16), .second, .val (.double r21), .second, .val (.long v24), .second, .val (.long v26), .second, .val (.double v28), .second] [])) tq → Steps p.tables e below (s₁.setTop (entryFrame m #[(.long q1), (.long q2), (.int p3), (.int p4)] maxLocals)) tq := by
      refine fun tq kq => pre27 tq ?_
      show Steps p.tables e below (T20.setTop (mkF m 115 #[.val (.long q1), .second, .val (.long q2), .second, .val (.int p3), .val (.int p4), .val (.long v2), .second, .val (.long v4), .second, .val (.int v6), .val (.long v8), .second, .val (.double v10), .second, .val (.double v12), .second, .val (.double v14), .second, .val (.double v16), .second, .val (.double r21), .second, .val (.long v24), .second, .val (.long v26), .second, .val (.double v28), .second] [])) _
      refine XS.dload X20.here hx rfl (hb hby at_115) rfl ?_
      show Steps p.tables e below (T20.setTop (mkF m 117 #[.val (.long q1), .second, .val (.long q2), .second, .val (.int p3), .val (.int p4), .val (.long v2), .second, .val (.long v4), .second, .val (.int v6), .val (.long v8), .second, .val (.double v10), .second, .val (.double v12), .second, .val (.double v14), .second, .val (.double v16), .second, .val (.double r21), .second, .val (.long v24), .second, .val (.long v26), .second, .val (.double v28), .second] [(.double r21)])) _
      refine XS.dload X20.here hx rfl (hb hby at_117) rfl ?_
      show Steps p.tables e below (T20.setTop (mkF m 119 #[.val (.long q1), .second, .val (.long q2), .second, .val (.int p3), .val (.int p4), .val (.long v2), .second, .val (.long v4), .second, .val (.int v6), .val (.long v8), .second, .val (.double v10), .second, .val (.double v12), .second, .val (.double v14), .second, .val (.double v16), .second, .val (.double r21), .second, .val (.long v24), .second, .val (.long v26), .second, .val (.double v28), .second] [(.double v28), (.double r21)])) _
      refine XS.dcmpS X20.here hx rfl (hb hby at_119) rfl (own_cmp hj9 hR hE _) ?_
      show Steps p.tables e below (T20.setTop (mkF m 120 #[.val (.long q1), .second, .val (.long q2), .second, .val (.int p3), .val (.int p4), .val (.long v2), .second, .val (.long v4), .second, .val (.int v6), .val (.long v8), .second, .val (.double v10), .second, .val (.double v12), .second, .val (.double v14), .second, .val (.double v16), .second, .val (.double r21), .second, .val (.long v24), .second, .val (.long v26), .second, .val (.double v28), .second] [(.int (0 : Int32))])) _
      refine XS.ifNo X20.here hx rfl (hb hby at_120) rfl ((if0 _ _).trans (teq (by decide : (0 : Int32) = (0 : Int32))).2) ?_
      exact kq
    obtain ⟨fs, hr, hrun, hended, hW, hsame⟩ := X20.leave (v := some (.int (1 : Int32))) (fun h => by rw [Bd.returns] at h; cases h)
    refine ⟨_, _, pre29 _ ?_, hrun, hended, _, _, rfl, ?_, ⟨_, rfl⟩, hW, hsame.mono (by decide) (by decide)⟩
    · skip
      show Steps p.tables e below (T20.setTop (mkF m 123 #[.val (.long q1), .second, .val (.long q2), .second, .val (.int p3), .val (.int p4), .val (.long v2), .second, .val (.long v4), .second, .val (.int v6), .val (.long v8), .second, .val (.double v10), .second, .val (.double v12), .second, .val (.double v14), .second, .val (.double v16), .second, .val (.double r21), .second, .val (.long v24), .second, .val (.long v26), .second, .val (.double v28), .second] [])) _
      refine XS.iconst X20.here hx rfl (hb hby at_123) ?_
      show Steps p.tables e below (T20.setTop (mkF m 124 #[.val (.long q1), .second, .val (.long q2), .second, .val (.int p3), .val (.int p4), .val (.long v2), .second, .val (.long v4), .second, .val (.int v6), .val (.long v8), .second, .val (.double v10), .second, .val (.double v12), .second, .val (.double v14), .second, .val (.double v16), .second, .val (.double r21), .second, .val (.long v24), .second, .val (.long v26), .second, .val (.double v28), .second] [(.int (1 : Int32))])) _
      refine XS.goto X20.here hx rfl (pc0 := 124) (pc' := 128) rfl (hb hby at_124) (by decide) (by decide) ?_
      show Steps p.tables e below (T20.setTop (mkF m 128 #[.val (.long q1), .second, .val (.long q2), .second, .val (.int p3), .val (.int p4), .val (.long v2), .second, .val (.long v4), .second, .val (.int v6), .val (.long v8), .second, .val (.double v10), .second, .val (.double v12), .second, .val (.double v14), .second, .val (.double v16), .second, .val (.double r21), .second, .val (.long v24), .second, .val (.long v26), .second, .val (.double v28), .second] [(.int (1 : Int32))])) _
      exact retN X20 hx (t := .boolean) Bd.returns (by simp) (hb hby at_128) hr
    · show Q0 Z q1 q2 p3 p4 h0 n0 _ T20.heap _
      rw [ehq20]
      exact ⟨rfl, N20⟩
  · skip
    have pre30 : ∀ tq, Steps p.tables e below (s₁.setTop (mkF m 62 #[.val (.long q1), .second, .val (.long q2), .second, .val (.int p3), .val (.int p4), .val (.long v2), .second, .val (.long v4), .second, .val (.int v6), .val (.long v8), .second, .val (.double v10), .second, .val (.double v12), .second, .val (.double v14), .second, .val (.double v16), .second, .unset, .unset, .unset, .unset, .unset, .unset, .unset, .unset] [])) tq → Steps p.tables e below (s₁.setTop (entryFrame m #[(.long q1), (.long q2), (.int p3), (.int p4)] maxLocals)) tq := by
      refine fun tq kq => pre17 tq ?_
      show Steps p.tables e below (s₁.setTop (mkF m 59 #[.val (.long q1), .second, .val (.long q2), .second, .val (.int p3), .val (.int p4), .val (.long v2), .second, .val (.long v4), .second, .val (.int v6), .val (.long v8), .second, .val (.double v10), .second, .val (.double v12), .second, .val (.double v14), .second, .val (.double v16), .second, .unset, .unset, .unset, .unset, .unset, .unset, .unset, .unset] [(.int (p4 &&& (1 : Int32)))])) _
      refine XS.ifNo X0.here hx rfl (hb hby at_59) rfl ((if0 _ _).trans (feq hc59).1) ?_
      exact kq
    have pre31 : ∀ tq, Steps p.tables e below (s₁.setTop (mkF m 68 #[.val (.long q1), .second, .val (.long q2), .second, .val (.int p3), .val (.int p4), .val (.long v2), .second, .val (.long v4), .second, .val (.int v6), .val (.long v8), .second, .val (.double v10), .second, .val (.double v12), .second, .val (.double v14), .second, .val (.double v16), .second, .unset, .unset, .unset, .unset, .unset, .unset, .unset, .unset] [(.double v16), (.double v12), (.double v14)])) tq → Steps p.tables e below (s₁.setTop (entryFrame m #[(.long q1), (.long q2), (.int p3), (.int p4)] maxLocals)) tq := by
      refine fun tq kq => pre30 tq ?_
      show Steps p.tables e below (s₁.setTop (mkF m 62 #[.val (.long q1), .second, .val (.long q2), .second, .val (.int p3), .val (.int p4), .val (.long v2), .second, .val (.long v4), .second, .val (.int v6), .val (.long v8), .second, .val (.double v10), .second, .val (.double v12), .second, .val (.double v14), .second, .val (.double v16), .second, .unset, .unset, .unset, .unset, .unset, .unset, .unset, .unset] [])) _
      refine XS.dload X0.here hx rfl (hb hby at_62) rfl ?_
      show Steps p.tables e below (s₁.setTop (mkF m 64 #[.val (.long q1), .second, .val (.long q2), .second, .val (.int p3), .val (.int p4), .val (.long v2), .second, .val (.long v4), .second, .val (.int v6), .val (.long v8), .second, .val (.double v10), .second, .val (.double v12), .second, .val (.double v14), .second, .val (.double v16), .second, .unset, .unset, .unset, .unset, .unset, .unset, .unset, .unset] [(.double v14)])) _
      refine XS.dload X0.here hx rfl (hb hby at_64) rfl ?_
      show Steps p.tables e below (s₁.setTop (mkF m 66 #[.val (.long q1), .second, .val (.long q2), .second, .val (.int p3), .val (.int p4), .val (.long v2), .second, .val (.long v4), .second, .val (.int v6), .val (.long v8), .second, .val (.double v10), .second, .val (.double v12), .second, .val (.double v14), .second, .val (.double v16), .second, .unset, .unset, .unset, .unset, .unset, .unset, .unset, .unset] [(.double v12), (.double v14)])) _
      refine XS.dload X0.here hx rfl (hb hby at_66) rfl ?_
      exact kq
    have Z32 : n0 ≤ h0.size := Z0
    obtain ⟨_, _, ⟨T32, L32, k32, n32⟩, -, X32, ⟨Lc32, hQ32, l32, y32, z32⟩, st32⟩ := Jvm.LawKit.callS X0 hx (y := (⟨"com/example/locatree/locatree/core/Rounding", "ofSum", "(DDD)D"⟩ : MethodName)) hown (mvT hZ (hw _ (List.mem_of_getElem? (i := 1) rfl))) (mvT hZ (hw _ (List.mem_of_getElem? (i := 2) rfl))) (mvT hZ (hw _ (List.mem_of_getElem? (i := 3) rfl))) (mvT hZ (hw _ (List.mem_of_getElem? (i := 4) rfl))) (by decide) (backOf (W := 0) (rm1 l Z a0 hw [] v14 v12 v16 jn dd h0 n0 Z32 (hok2)) hZ (hw _ (List.mem_of_getElem? (i := 4) rfl)) (hw _ (List.mem_of_getElem? (i := 3) rfl)) (by decide) (by decide)) (g := (mkF m 68 #[.val (.long q1), .second, .val (.long q2), .second, .val (.int p3), .val (.int p4), .val (.long v2), .second, .val (.long v4), .second, .val (.int v6), .val (.long v8), .second, .val (.double v10), .second, .val (.double v12), .second, .val (.double v14), .second, .val (.double v16), .second, .unset, .unset, .unset, .unset, .unset, .unset, .unset, .unset] [(.double v16), (.double v12), (.double v14)])) rfl (by rw [hml]; rfl) (argsL := [(.double v14), (.double v12), (.double v16)]) (rest := []) (lenOf pd0_0 rfl) rfl (by show 2 * 0 + _ ≤ _; exact Nat.le_of_eq rfl) (hb hby at_68) (fun _ _ => ⟨rfl, e0, (by decide : 0 + 0 ≤ _), (by decide : 0 + 0 ≤ _)⟩)
    dsimp only [Pt.U, Pt.locs, Pt.cells, Pt.slots] at X32 l32 y32 z32 st32 hQ32
    subst l32 y32 z32
    obtain ⟨r33, rfl, Nq32, ehq32, hq32⟩ := hQ32
    have N32 := Fr.app N0 Nq32
    have pre34 : ∀ tq, Steps p.tables e below (T32.setTop (mkF m 71 #[.val (.long q1), .second, .val (.long q2), .second, .val (.int p3), .val (.int p4), .val (.long v2), .second, .val (.long v4), .second, .val (.int v6), .val (.long v8), .second, .val (.double v10), .second, .val (.double v12), .second, .val (.double v14), .second, .val (.double v16), .second, .unset, .unset, .unset, .unset, .unset, .unset, .unset, .unset] [(.double r33)])) tq → Steps p.tables e below (s₁.setTop (entryFrame m #[(.long q1), (.long q2), (.int p3), (.int p4)] maxLocals)) tq := fun tq kq => pre31 tq (st32 _ kq)
    have hR := hq32
    obtain ⟨v36, hv_v36, pre35⟩ : ∃ v36 : Int64, v36 = ((v2 * v8) + v4) ∧ (∀ tq, Steps p.tables e below (T32.setTop (mkF m 95 #[.val (.long q1), .second, .val (.long q2), .second, .val (.int p3), .val (.int p4), .val (.long v2), .second, .val (.long v4), .second, .val (.int v6), .val (.long v8), .second, .val (.double v10), .second, .val (.double v12), .second, .val (.double v14), .second, .val (.double v16), .second, .val (.double r33), .second, .val (.long v36), .second, .unset, .unset, .unset, .unset] [])) tq → Steps p.tables e below (s₁.setTop (entryFrame m #[(.long q1), (.long q2), (.int p3), (.int p4)] maxLocals)) tq) := by
      refine ⟨_, rfl, fun tq kq => pre34 tq ?_⟩
      show Steps p.tables e below (T32.setTop (mkF m 71 #[.val (.long q1), .second, .val (.long q2), .second, .val (.int p3), .val (.int p4), .val (.long v2), .second, .val (.long v4), .second, .val (.int v6), .val (.long v8), .second, .val (.double v10), .second, .val (.double v12), .second, .val (.double v14), .second, .val (.double v16), .second, .unset, .unset, .unset, .unset, .unset, .unset, .unset, .unset] [(.double r33)])) _
      refine XS.goto X32.here hx rfl (pc0 := 71) (pc' := 83) rfl (hb hby at_71) (by decide) (by decide) ?_
      show Steps p.tables e below (T32.setTop (mkF m 83 #[.val (.long q1), .second, .val (.long q2), .second, .val (.int p3), .val (.int p4), .val (.long v2), .second, .val (.long v4), .second, .val (.int v6), .val (.long v8), .second, .val (.double v10), .second, .val (.double v12), .second, .val (.double v14), .second, .val (.double v16), .second, .unset, .unset, .unset, .unset, .unset, .unset, .unset, .unset] [(.double r33)])) _
      refine XS.dstore X32.here hx rfl (hb hby at_83) rfl (l' := #[.val (.long q1), .second, .val (.long q2), .second, .val (.int p3), .val (.int p4), .val (.long v2), .second, .val (.long v4), .second, .val (.int v6), .val (.long v8), .second, .val (.double v10), .second, .val (.double v12), .second, .val (.double v14), .second, .val (.double v16), .second, .val (.double r33), .second, .unset, .unset, .unset, .unset, .unset, .unset]) rfl ?_
      show Steps p.tables e below (T32.setTop (mkF m 85 #[.val (.long q1), .second, .val (.long q2), .second, .val (.int p3), .val (.int p4), .val (.long v2), .second, .val (.long v4), .second, .val (.int v6), .val (.long v8), .second, .val (.double v10), .second, .val (.double v12), .second, .val (.double v14), .second, .val (.double v16), .second, .val (.double r33), .second, .unset, .unset, .unset, .unset, .unset, .unset] [])) _
      refine XS.lload X32.here hx rfl (hb hby at_85) rfl ?_
      show Steps p.tables e below (T32.setTop (mkF m 87 #[.val (.long q1), .second, .val (.long q2), .second, .val (.int p3), .val (.int p4), .val (.long v2), .second, .val (.long v4), .second, .val (.int v6), .val (.long v8), .second, .val (.double v10), .second, .val (.double v12), .second, .val (.double v14), .second, .val (.double v16), .second, .val (.double r33), .second, .unset, .unset, .unset, .unset, .unset, .unset] [(.long v2)])) _
      refine XS.lload X32.here hx rfl (hb hby at_87) rfl ?_
      show Steps p.tables e below (T32.setTop (mkF m 89 #[.val (.long q1), .second, .val (.long q2), .second, .val (.int p3), .val (.int p4), .val (.long v2), .second, .val (.long v4), .second, .val (.int v6), .val (.long v8), .second, .val (.double v10), .second, .val (.double v12), .second, .val (.double v14), .second, .val (.double v16), .second, .val (.double r33), .second, .unset, .unset, .unset, .unset, .unset, .unset] [(.long v8), (.long v2)])) _
      refine XS.lmul X32.here hx rfl (hb hby at_89) rfl ?_
      show Steps p.tables e below (T32.setTop (mkF m 90 #[.val (.long q1), .second, .val (.long q2), .second, .val (.int p3), .val (.int p4), .val (.long v2), .second, .val (.long v4), .second, .val (.int v6), .val (.long v8), .second, .val (.double v10), .second, .val (.double v12), .second, .val (.double v14), .second, .val (.double v16), .second, .val (.double r33), .second, .unset, .unset, .unset, .unset, .unset, .unset] [(.long (v2 * v8))])) _
      refine XS.lload X32.here hx rfl (hb hby at_90) rfl ?_
      show Steps p.tables e below (T32.setTop (mkF m 92 #[.val (.long q1), .second, .val (.long q2), .second, .val (.int p3), .val (.int p4), .val (.long v2), .second, .val (.long v4), .second, .val (.int v6), .val (.long v8), .second, .val (.double v10), .second, .val (.double v12), .second, .val (.double v14), .second, .val (.double v16), .second, .val (.double r33), .second, .unset, .unset, .unset, .unset, .unset, .unset] [(.long v4), (.long (v2 * v8))])) _
      refine XS.ladd X32.here hx rfl (hb hby at_92) rfl ?_
      show Steps p.tables e below (T32.setTop (mkF m 93 #[.val (.long q1), .second, .val (.long q2), .second, .val (.int p3), .val (.int p4), .val (.long v2), .second, .val (.long v4), .second, .val (.int v6), .val (.long v8), .second, .val (.double v10), .second, .val (.double v12), .second, .val (.double v14), .second, .val (.double v16), .second, .val (.double r33), .second, .unset, .unset, .unset, .unset, .unset, .unset] [(.long ((v2 * v8) + v4))])) _
      refine XS.lstore X32.here hx rfl (hb hby at_93) rfl (l' := #[.val (.long q1), .second, .val (.long q2), .second, .val (.int p3), .val (.int p4), .val (.long v2), .second, .val (.long v4), .second, .val (.int v6), .val (.long v8), .second, .val (.double v10), .second, .val (.double v12), .second, .val (.double v14), .second, .val (.double v16), .second, .val (.double r33), .second, .val (.long ((v2 * v8) + v4)), .second, .unset, .unset, .unset, .unset]) rfl ?_
      exact kq
    have hnn100 : Jvm.Free.Fl.NoNaN64 (FP.dmul v16 (FP.l2d v8)) := by exact own_D_nn hS0
    obtain ⟨v38, hv_v38, pre37⟩ : ∃ v38 : Int64, v38 = (FP.d2l (FP.dmul v16 (FP.l2d v8))) ∧ (∀ tq, Steps p.tables e below (T32.setTop (mkF m 104 #[.val (.long q1), .second, .val (.long q2), .second, .val (.int p3), .val (.int p4), .val (.long v2), .second, .val (.long v4), .second, .val (.int v6), .val (.long v8), .second, .val (.double v10), .second, .val (.double v12), .second, .val (.double v14), .second, .val (.double v16), .second, .val (.double r33), .second, .val (.long v36), .second, .val (.long v38), .second, .unset, .unset] [])) tq → Steps p.tables e below (s₁.setTop (entryFrame m #[(.long q1), (.long q2), (.int p3), (.int p4)] maxLocals)) tq) := by
      refine ⟨_, rfl, fun tq kq => pre35 tq ?_⟩
      show Steps p.tables e below (T32.setTop (mkF m 95 #[.val (.long q1), .second, .val (.long q2), .second, .val (.int p3), .val (.int p4), .val (.long v2), .second, .val (.long v4), .second, .val (.int v6), .val (.long v8), .second, .val (.double v10), .second, .val (.double v12), .second, .val (.double v14), .second, .val (.double v16), .second, .val (.double r33), .second, .val (.long v36), .second, .unset, .unset, .unset, .unset] [])) _
      refine XS.dload X32.here hx rfl (hb hby at_95) rfl ?_
      show Steps p.tables e below (T32.setTop (mkF m 97 #[.val (.long q1), .second, .val (.long q2), .second, .val (.int p3), .val (.int p4), .val (.long v2), .second, .val (.long v4), .second, .val (.int v6), .val (.long v8), .second, .val (.double v10), .second, .val (.double v12), .second, .val (.double v14), .second, .val (.double v16), .second, .val (.double r33), .second, .val (.long v36), .second, .unset, .unset, .unset, .unset] [(.double v16)])) _
      refine XS.lload X32.here hx rfl (hb hby at_97) rfl ?_
      show Steps p.tables e below (T32.setTop (mkF m 99 #[.val (.long q1), .second, .val (.long q2), .second, .val (.int p3), .val (.int p4), .val (.long v2), .second, .val (.long v4), .second, .val (.int v6), .val (.long v8), .second, .val (.double v10), .second, .val (.double v12), .second, .val (.double v14), .second, .val (.double v16), .second, .val (.double r33), .second, .val (.long v36), .second, .unset, .unset, .unset, .unset] [(.long v8), (.double v16)])) _
      refine XS.l2dS X32.here hx rfl (hb hby at_99) rfl rfl ?_
      show Steps p.tables e below (T32.setTop (mkF m 100 #[.val (.long q1), .second, .val (.long q2), .second, .val (.int p3), .val (.int p4), .val (.long v2), .second, .val (.long v4), .second, .val (.int v6), .val (.long v8), .second, .val (.double v10), .second, .val (.double v12), .second, .val (.double v14), .second, .val (.double v16), .second, .val (.double r33), .second, .val (.long v36), .second, .unset, .unset, .unset, .unset] [(.double (FP.l2d v8)), (.double v16)])) _
      refine XS.dmulS X32.here hx rfl (hb hby at_100) rfl hnn100 rfl ?_
      show Steps p.tables e below (T32.setTop (mkF m 101 #[.val (.long q1), .second, .val (.long q2), .second, .val (.int p3), .val (.int p4), .val (.long v2), .second, .val (.long v4), .second, .val (.int v6), .val (.long v8), .second, .val (.double v10), .second, .val (.double v12), .second, .val (.double v14), .second, .val (.double v16), .second, .val (.double r33), .second, .val (.long v36), .second, .unset, .unset, .unset, .unset] [(.double (FP.dmul v16 (FP.l2d v8)))])) _
      refine XS.d2lS X32.here hx rfl (hb hby at_101) rfl rfl ?_
      show Steps p.tables e below (T32.setTop (mkF m 102 #[.val (.long q1), .second, .val (.long q2), .second, .val (.int p3), .val (.int p4), .val (.long v2), .second, .val (.long v4), .second, .val (.int v6), .val (.long v8), .second, .val (.double v10), .second, .val (.double v12), .second, .val (.double v14), .second, .val (.double v16), .second, .val (.double r33), .second, .val (.long v36), .second, .unset, .unset, .unset, .unset] [(.long (FP.d2l (FP.dmul v16 (FP.l2d v8))))])) _
      refine XS.lstore X32.here hx rfl (hb hby at_102) rfl (l' := #[.val (.long q1), .second, .val (.long q2), .second, .val (.int p3), .val (.int p4), .val (.long v2), .second, .val (.long v4), .second, .val (.int v6), .val (.long v8), .second, .val (.double v10), .second, .val (.double v12), .second, .val (.double v14), .second, .val (.double v16), .second, .val (.double r33), .second, .val (.long v36), .second, .val (.long (FP.d2l (FP.dmul v16 (FP.l2d v8)))), .second, .unset, .unset]) rfl ?_
      exact kq
    have hdl := own_last hj9 hp52 hq52 hw2 hdd hd5 hS0 hv_v36 hv_v38
    have hE := own_b (q := v36 - v38) hj9 (by rw [hdl]; omega) hsc
    rw [hdl] at hE
    have hnn112 : Jvm.Free.Fl.NoNaN64 (FP.dmul (FP.l2d (v36 - v38)) v10) := by exact own_D_nn hE
    obtain ⟨v40, hv_v40, pre39⟩ : ∃ v40 : UInt64, v40 = (FP.dmul (FP.l2d (v36 - v38)) v10) ∧ (∀ tq, Steps p.tables e below (T32.setTop (mkF m 115 #[.val (.long q1), .second, .val (.long q2), .second, .val (.int p3), .val (.int p4), .val (.long v2), .second, .val (.long v4), .second, .val (.int v6), .val (.long v8), .second, .val (.double v10), .second, .val (.double v12), .second, .val (.double v14), .second, .val (.double v16), .second, .val (.double r33), .second, .val (.long v36), .second, .val (.long v38), .second, .val (.double v40), .second] [])) tq → Steps p.tables e below (s₁.setTop (entryFrame m #[(.long q1), (.long q2), (.int p3), (.int p4)] maxLocals)) tq) := by
      refine ⟨_, rfl, fun tq kq => pre37 tq ?_⟩
      show Steps p.tables e below (T32.setTop (mkF m 104 #[.val (.long q1), .second, .val (.long q2), .second, .val (.int p3), .val (.int p4), .val (.long v2), .second, .val (.long v4), .second, .val (.int v6), .val (.long v8), .second, .val (.double v10), .second, .val (.double v12), .second, .val (.double v14), .second, .val (.double v16), .second, .val (.double r33), .second, .val (.long v36), .second, .val (.long v38), .second, .unset, .unset] [])) _
      refine XS.lload X32.here hx rfl (hb hby at_104) rfl ?_
      show Steps p.tables e below (T32.setTop (mkF m 106 #[.val (.long q1), .second, .val (.long q2), .second, .val (.int p3), .val (.int p4), .val (.long v2), .second, .val (.long v4), .second, .val (.int v6), .val (.long v8), .second, .val (.double v10), .second, .val (.double v12), .second, .val (.double v14), .second, .val (.double v16), .second, .val (.double r33), .second, .val (.long v36), .second, .val (.long v38), .second, .unset, .unset] [(.long v36)])) _
      refine XS.lload X32.here hx rfl (hb hby at_106) rfl ?_
      show Steps p.tables e below (T32.setTop (mkF m 108 #[.val (.long q1), .second, .val (.long q2), .second, .val (.int p3), .val (.int p4), .val (.long v2), .second, .val (.long v4), .second, .val (.int v6), .val (.long v8), .second, .val (.double v10), .second, .val (.double v12), .second, .val (.double v14), .second, .val (.double v16), .second, .val (.double r33), .second, .val (.long v36), .second, .val (.long v38), .second, .unset, .unset] [(.long v38), (.long v36)])) _
      refine XS.lsub X32.here hx rfl (hb hby at_108) rfl ?_
      show Steps p.tables e below (T32.setTop (mkF m 109 #[.val (.long q1), .second, .val (.long q2), .second, .val (.int p3), .val (.int p4), .val (.long v2), .second, .val (.long v4), .second, .val (.int v6), .val (.long v8), .second, .val (.double v10), .second, .val (.double v12), .second, .val (.double v14), .second, .val (.double v16), .second, .val (.double r33), .second, .val (.long v36), .second, .val (.long v38), .second, .unset, .unset] [(.long (v36 - v38))])) _
      refine XS.l2dS X32.here hx rfl (hb hby at_109) rfl rfl ?_
      show Steps p.tables e below (T32.setTop (mkF m 110 #[.val (.long q1), .second, .val (.long q2), .second, .val (.int p3), .val (.int p4), .val (.long v2), .second, .val (.long v4), .second, .val (.int v6), .val (.long v8), .second, .val (.double v10), .second, .val (.double v12), .second, .val (.double v14), .second, .val (.double v16), .second, .val (.double r33), .second, .val (.long v36), .second, .val (.long v38), .second, .unset, .unset] [(.double (FP.l2d (v36 - v38)))])) _
      refine XS.dload X32.here hx rfl (hb hby at_110) rfl ?_
      show Steps p.tables e below (T32.setTop (mkF m 112 #[.val (.long q1), .second, .val (.long q2), .second, .val (.int p3), .val (.int p4), .val (.long v2), .second, .val (.long v4), .second, .val (.int v6), .val (.long v8), .second, .val (.double v10), .second, .val (.double v12), .second, .val (.double v14), .second, .val (.double v16), .second, .val (.double r33), .second, .val (.long v36), .second, .val (.long v38), .second, .unset, .unset] [(.double v10), (.double (FP.l2d (v36 - v38)))])) _
      refine XS.dmulS X32.here hx rfl (hb hby at_112) rfl hnn112 rfl ?_
      show Steps p.tables e below (T32.setTop (mkF m 113 #[.val (.long q1), .second, .val (.long q2), .second, .val (.int p3), .val (.int p4), .val (.long v2), .second, .val (.long v4), .second, .val (.int v6), .val (.long v8), .second, .val (.double v10), .second, .val (.double v12), .second, .val (.double v14), .second, .val (.double v16), .second, .val (.double r33), .second, .val (.long v36), .second, .val (.long v38), .second, .unset, .unset] [(.double (FP.dmul (FP.l2d (v36 - v38)) v10))])) _
      refine XS.dstore X32.here hx rfl (hb hby at_113) rfl (l' := #[.val (.long q1), .second, .val (.long q2), .second, .val (.int p3), .val (.int p4), .val (.long v2), .second, .val (.long v4), .second, .val (.int v6), .val (.long v8), .second, .val (.double v10), .second, .val (.double v12), .second, .val (.double v14), .second, .val (.double v16), .second, .val (.double r33), .second, .val (.long v36), .second, .val (.long v38), .second, .val (.double (FP.dmul (FP.l2d (v36 - v38)) v10)), .second]) rfl ?_
      exact kq
    rw [← hv_v40] at hE
    have pre41 : ∀ tq, Steps p.tables e below (T32.setTop (mkF m 123 #[.val (.long q1), .second, .val (.long q2), .second, .val (.int p3), .val (.int p4), .val (.long v2), .second, .val (.long v4), .second, .val (.int v6), .val (.long v8), .second, .val (.double v10), .second, .val (.double v12), .second, .val (.double v14), .second, .val (.double v16), .second, .val (.double r33), .second, .val (.long v36), .second, .val (.long v38), .second, .val (.double v40), .second] [])) tq → Steps p.tables e below (s₁.setTop (entryFrame m #[(.long q1), (.long q2), (.int p3), (.int p4)] maxLocals)) tq := by
      refine fun tq kq => pre39 tq ?_
      show Steps p.tables e below (T32.setTop (mkF m 115 #[.val (.long q1), .second, .val (.long q2), .second, .val (.int p3), .val (.int p4), .val (.long v2), .second, .val (.long v4), .second, .val (.int v6), .val (.long v8), .second, .val (.double v10), .second, .val (.double v12), .second, .val (.double v14), .second, .val (.double v16), .second, .val (.double r33), .second, .val (.long v36), .second, .val (.long v38), .second, .val (.double v40), .second] [])) _
      refine XS.dload X32.here hx rfl (hb hby at_115) rfl ?_
      show Steps p.tables e below (T32.setTop (mkF m 117 #[.val (.long q1), .second, .val (.long q2), .second, .val (.int p3), .val (.int p4), .val (.long v2), .second, .val (.long v4), .second, .val (.int v6), .val (.long v8), .second, .val (.double v10), .second, .val (.double v12), .second, .val (.double v14), .second, .val (.double v16), .second, .val (.double r33), .second, .val (.long v36), .second, .val (.long v38), .second, .val (.double v40), .second] [(.double r33)])) _
      refine XS.dload X32.here hx rfl (hb hby at_117) rfl ?_
      show Steps p.tables e below (T32.setTop (mkF m 119 #[.val (.long q1), .second, .val (.long q2), .second, .val (.int p3), .val (.int p4), .val (.long v2), .second, .val (.long v4), .second, .val (.int v6), .val (.long v8), .second, .val (.double v10), .second, .val (.double v12), .second, .val (.double v14), .second, .val (.double v16), .second, .val (.double r33), .second, .val (.long v36), .second, .val (.long v38), .second, .val (.double v40), .second] [(.double v40), (.double r33)])) _
      refine XS.dcmpS X32.here hx rfl (hb hby at_119) rfl (own_cmp hj9 hR hE _) ?_
      show Steps p.tables e below (T32.setTop (mkF m 120 #[.val (.long q1), .second, .val (.long q2), .second, .val (.int p3), .val (.int p4), .val (.long v2), .second, .val (.long v4), .second, .val (.int v6), .val (.long v8), .second, .val (.double v10), .second, .val (.double v12), .second, .val (.double v14), .second, .val (.double v16), .second, .val (.double r33), .second, .val (.long v36), .second, .val (.long v38), .second, .val (.double v40), .second] [(.int (0 : Int32))])) _
      refine XS.ifNo X32.here hx rfl (hb hby at_120) rfl ((if0 _ _).trans (teq (by decide : (0 : Int32) = (0 : Int32))).2) ?_
      exact kq
    obtain ⟨fs, hr, hrun, hended, hW, hsame⟩ := X32.leave (v := some (.int (1 : Int32))) (fun h => by rw [Bd.returns] at h; cases h)
    refine ⟨_, _, pre41 _ ?_, hrun, hended, _, _, rfl, ?_, ⟨_, rfl⟩, hW, hsame.mono (by decide) (by decide)⟩
    · skip
      show Steps p.tables e below (T32.setTop (mkF m 123 #[.val (.long q1), .second, .val (.long q2), .second, .val (.int p3), .val (.int p4), .val (.long v2), .second, .val (.long v4), .second, .val (.int v6), .val (.long v8), .second, .val (.double v10), .second, .val (.double v12), .second, .val (.double v14), .second, .val (.double v16), .second, .val (.double r33), .second, .val (.long v36), .second, .val (.long v38), .second, .val (.double v40), .second] [])) _
      refine XS.iconst X32.here hx rfl (hb hby at_123) ?_
      show Steps p.tables e below (T32.setTop (mkF m 124 #[.val (.long q1), .second, .val (.long q2), .second, .val (.int p3), .val (.int p4), .val (.long v2), .second, .val (.long v4), .second, .val (.int v6), .val (.long v8), .second, .val (.double v10), .second, .val (.double v12), .second, .val (.double v14), .second, .val (.double v16), .second, .val (.double r33), .second, .val (.long v36), .second, .val (.long v38), .second, .val (.double v40), .second] [(.int (1 : Int32))])) _
      refine XS.goto X32.here hx rfl (pc0 := 124) (pc' := 128) rfl (hb hby at_124) (by decide) (by decide) ?_
      show Steps p.tables e below (T32.setTop (mkF m 128 #[.val (.long q1), .second, .val (.long q2), .second, .val (.int p3), .val (.int p4), .val (.long v2), .second, .val (.long v4), .second, .val (.int v6), .val (.long v8), .second, .val (.double v10), .second, .val (.double v12), .second, .val (.double v14), .second, .val (.double v16), .second, .val (.double r33), .second, .val (.long v36), .second, .val (.long v38), .second, .val (.double v40), .second] [(.int (1 : Int32))])) _
      exact retN X32 hx (t := .boolean) Bd.returns (by simp) (hb hby at_128) hr
    · show Q0 Z q1 q2 p3 p4 h0 n0 _ T32.heap _
      rw [ehq32]
      exact ⟨rfl, N32⟩
set_option maxRecDepth 65536 in
set_option maxHeartbeats 40000000 in
theorem comes_1 {Post : Tables → Env → Array Value → State → Outcome → State → Prop} (hpost : ∀ tb e args s v u, (limb_1_1.after args s (.returned v) u = true ∧ limb_1_2.after args s (.returned v) u = true ∧ True) → FrameEnd s (.returned v) u (Jvm.fieldLocs frame_1_writes args s ++ Jvm.arrayLocs frame_1_arrays args s ++ Jvm.staticLocs frame_1_statics s) 0 0 → Post tb e args s (.returned v) u) :
    ArmFor flags0 classFile x code maxLocals ret World_1 tables_1 room_1 Calls_1 rest_1 Pre_1 Post := by
  intro l hfl _ _ p e ha hc hk s m args below hf hA hF happ hP
  obtain ⟨hcalls, hrest, hpre⟩ := hP
  obtain ⟨-, -, -, hnamed, -, -, -, hat⟩ := (Spec.applies_iff hf).mp happ
  obtain ⟨hg, hn⟩ := and_e (Cond.before_iff.mp (show (Jvm.Cond.and given_1 narrow_1).before args s = true from hpre))
  obtain ⟨k0, g0⟩ := and_e hg
  obtain ⟨k1, g1⟩ := and_e g0
  obtain ⟨k2, g2⟩ := and_e g1
  obtain ⟨k3, g3⟩ := and_e g2
  obtain ⟨w0, w1, w2, w3, rfl⟩ : ∃ w0 w1 w2 w3 : Value, args = #[w0, w1, w2, w3] := by
    have hs : args.size = 4 := by simpa [Cond.value, given_1] using k0
    obtain ⟨L⟩ := args
    match L, hs with
    | [w0, w1, w2, w3], _ => exact ⟨w0, w1, w2, w3, rfl⟩
  have hw := fun d (hd : d ∈ tables_1) => atoms_spec (ws := Jvm.Cond.code x code maxLocals ret :: tables_1) hat d (List.mem_cons_of_mem _ hd)
  have hfit : Fit s := fun {y c} hc i hi => by
    obtain ⟨ha, rfl⟩ := Array.getElem?_eq_some_iff.mp hc
    have q := List.all_eq_true.mp ((Array.all_eq_true_iff_forall_mem.mp hF) _ (Array.getElem_mem ha)) i (List.mem_range.mpr hi)
    simpa [Array.getElem?_eq_getElem hi] using q
  obtain ⟨i0, ei0⟩ := isL_v k1
  obtain rfl : w0 = (.long i0) := Option.some.inj ei0
  obtain ⟨i1, ei1⟩ := isL_v k2
  obtain rfl : w1 = (.long i1) := Option.some.inj ei1
  obtain ⟨i2, ei2⟩ := is_v k3
  obtain rfl : w2 = (.int i2) := Option.some.inj ei2
  obtain ⟨i3, ei3⟩ := is_v g3
  obtain rfl : w3 = (.int i3) := Option.some.inj ei3
  obtain ⟨n, o, h1, h2, h3, _, L, rfl, ⟨rfl, N⟩, hq⟩ := rm0 l s _ hw tables_1 i0 i1 i2 i3  s.heap s.heap.size (Nat.le_refl _)  p e ha hc hk s m _ below hf ((Spec.applies_iff_loose hf).mp happ).1 ⟨rfl, State.Warmed39.refl s, rfl⟩ trivial
  refine ⟨n, _, h1, h2, h3, hpost _ _ _ _ _ _ ⟨Cond.after_iff.mpr rfl, Cond.after_iff.mpr (eq_i res_at (Term.int_eval (1)) rfl), trivial⟩ ⟨hq.1, hq.2.1, (hq.2.2.sift fun y hy => Or.inr (N y hy)).mono (by decide) (by decide)⟩⟩
theorem main_1_1 : Claimed_1_1 := comes_1 fun _ _ _ _ _ _ h hF => ⟨h.1, hF⟩
theorem main_1_2 : Claimed_1_2 := comes_1 fun _ _ _ _ _ _ h hF => ⟨h.2.1, hF⟩
end Jvm.Pilot.@@N@@
namespace Jvm.Pilot.@@N@@
open Jvm Jvm.ClassFile Sem Op Lib Jvm.Free Jvm.Stand Jvm.Pilot.@@N@@.Jvm.D
/-! MADE BY PROGRAM (witnessworld.py) out of the Statement's table words and the real class files: 9 classes; the members and pool entries that the words name. The judged class is class 1, her method 1. -/
namespace start1
open Jvm.ClassFile
def u (s : String) : CpInfo := .utf8 (stringToUtf16 s)
/-- a pool by its gaps: so many unusable entries, then the entry; so many at the end -/
def gap : Nat → List CpInfo → List CpInfo
  | 0, r => r
  | n + 1, r => .unusable :: gap n r
def poolList (es : List (Nat × CpInfo)) (last : Nat) : List CpInfo := es.foldr (fun e r => gap e.1 (e.2 :: r)) (gap last [])
def pool (es : List (Nat × CpInfo)) (last : Nat) : Array CpInfo := ⟨poolList es last⟩
def fileOf (pool : Array CpInfo) (this : Nat) (attrs : Array Attribute := #[]) (ms : Array MethodInfo := #[]) (fl : Nat := 33) (sup : Nat := 0) (ifs : Array Nat := #[]) (fds : Array FieldInfo := #[]) : ClassFile where
  minorVersion := 0
  majorVersion := 65
  constantPool := pool
  accessFlags := fl
  thisClass := this
  superClass := sup
  interfaces := ifs
  fields := fds
  methods := ms
  attributes := attrs
def plain (name : String) (sup : Option ClassId) : Class where
  name := name
  kind := .ordinary
  loader := none
  accessFlags := 33
  super := sup
  interfaces := #[]
  cf := none
  fields := #[]
  methods := #[]
  instanceTypes := #[]
  staticTypes := #[]
  resolved := #[]
  callSites := []
  init := .initialized
  statics := none
  mirror := none

def pool0 : Array CpInfo := pool [(5, u "<init>"), (0, u "()V"), (1, .class_ 10), (1, u "java/lang/Object")] 113

def k0m0 : Method := { name := "<init>", desc := "()V", sig := { parameters := [], returnType := none }, accessFlags := 1, code := none }
/-- java/lang/Object -/
def k0 : Class := { plain "java/lang/Object" none with
  accessFlags := 33
  interfaces := #[]
  cf := some (fileOf pool0 8 #[] #[{ accessFlags := 1, nameIndex := 5, descriptorIndex := 6, attributes := #[] }] 33 0 #[] #[])
  fields := #[]
  methods := #[k0m0]
  instanceTypes := #[]
  staticTypes := #[]
  resolved := Array.replicate 124 none
  statics := none }

def pool1 : Array CpInfo := pool [(2, .class_ 4), (1, u "java/lang/Object"), (0, u "<init>"), (0, u "()V"), (0, .integer 2147483647), (0, .methodref 9 10), (0, .class_ 11), (0, .nameAndType 12 13), (0, u "com/example/locatree/locatree/core/Rounding"), (0, u "ofSum"), (0, u "(DDD)D"), (0, .class_ 15), (0, u "com/example/locatree/locatree/core/RoundingOfSumPinLaw"), (2, u "law"), (0, u "(JJII)Z")] 3

def k1m0 : Method := { name := "<init>", desc := "()V", sig := { parameters := [], returnType := none }, accessFlags := 1, code := none }
def k1c1 : Code := { maxStack := 6, maxLocals := 29, code := code, exceptionTable := #[], attributes := #[] }
def k1m1 : Method := { name := "law", desc := "(JJII)Z", sig := { parameters := [.long, .long, .int, .int], returnType := some .boolean }, accessFlags := 9, code := some k1c1 }
/-- com/example/locatree/locatree/core/RoundingOfSumPinLaw -/
def k1 : Class := { plain "com/example/locatree/locatree/core/RoundingOfSumPinLaw" (some 0) with
  accessFlags := 49
  interfaces := #[]
  cf := some (fileOf pool1 14 #[] #[{ accessFlags := 1, nameIndex := 5, descriptorIndex := 6, attributes := #[] }, { accessFlags := 9, nameIndex := 18, descriptorIndex := 19, attributes := #[] }] 49 2 #[] #[])
  fields := #[]
  methods := #[k1m0, k1m1]
  instanceTypes := #[]
  staticTypes := #[]
  resolved := Array.replicate 23 none
  statics := none }

def pool2 : Array CpInfo := pool [(2, .class_ 4), (1, u "java/lang/Object"), (0, u "<init>"), (0, u "()V"), (1, .class_ 10), (1, u "com/example/locatree/locatree/core/Rounding"), (0, u "ofSum"), (0, u "(DDD)D")] 13

def k2m0 : Method := { name := "<init>", desc := "()V", sig := { parameters := [], returnType := none }, accessFlags := 2, code := none }
def k2c1 : Code := { maxStack := 6, maxLocals := 10, code := prog_5_method_2_code, exceptionTable := #[], attributes := #[] }
def k2m1 : Method := { name := "ofSum", desc := "(DDD)D", sig := { parameters := [.double, .double, .double], returnType := some .double }, accessFlags := 9, code := some k2c1 }
/-- com/example/locatree/locatree/core/Rounding -/
def k2 : Class := { plain "com/example/locatree/locatree/core/Rounding" (some 0) with
  accessFlags := 33
  interfaces := #[]
  cf := some (fileOf pool2 8 #[] #[{ accessFlags := 2, nameIndex := 5, descriptorIndex := 6, attributes := #[] }, { accessFlags := 9, nameIndex := 11, descriptorIndex := 12, attributes := #[] }] 33 2 #[] #[])
  fields := #[]
  methods := #[k2m0, k2m1]
  instanceTypes := #[]
  staticTypes := #[]
  resolved := Array.replicate 26 none
  statics := none }

def pool3 : Array CpInfo := pool [(1, u "java/lang/Cloneable"), (0, .class_ 1), (0, u "java/lang/Object"), (0, .class_ 3)] 3

/-- java/lang/Cloneable -/
def k3 : Class := { plain "java/lang/Cloneable" (some 0) with
  accessFlags := 1537
  interfaces := #[]
  cf := some (fileOf pool3 2 #[] #[] 1537 4 #[] #[])
  fields := #[]
  methods := #[]
  instanceTypes := #[]
  staticTypes := #[]
  resolved := Array.replicate 8 none
  statics := none }

def pool4 : Array CpInfo := pool [(1, u "java/io/Serializable"), (0, .class_ 1), (0, u "java/lang/Object"), (0, .class_ 3)] 3

/-- java/io/Serializable -/
def k4 : Class := { plain "java/io/Serializable" (some 0) with
  accessFlags := 1537
  interfaces := #[]
  cf := some (fileOf pool4 2 #[] #[] 1537 4 #[] #[])
  fields := #[]
  methods := #[]
  instanceTypes := #[]
  staticTypes := #[]
  resolved := Array.replicate 8 none
  statics := none }

/-- the primitive byte -/
def k5 : Class := { plain "byte" none with kind := .primitive 'B', accessFlags := 0x411 }
/-- [B -/
def k6 : Class := { plain "[B" (some 0) with kind := .array 5 .byte, interfaces := #[3, 4], accessFlags := 1041 }

/-- the primitive int -/
def k7 : Class := { plain "int" none with kind := .primitive 'I', accessFlags := 0x411 }
/-- [I -/
def k8 : Class := { plain "[I" (some 0) with kind := .array 7 .int, interfaces := #[3, 4], accessFlags := 1041 }

def heap : Heap := #[]
def classes : Array Class := #[k0, k1, k2, k3, k4, k5, k6, k7, k8]
def interned : List (Array UInt16 × Addr) := []
def slotsUsed : Nat := 0
def theMethod : MethodId := ⟨1, 1⟩
def args0 : Array Value := #[.long 50000, .long 7777, .int 3, .int 1]
def aboutOver (below : List Frame) : State where
  vm := { classes := classes, interned := interned.toArray }
  heap := heap
  slotsUsed := slotsUsed
  threads := #[{ frames := .invoking theMethod args0 :: below }]
def below0 : List Frame := [.native { method := ⟨0, 0⟩, args := #[] }]
def about1 : State := aboutOver below0
def p0 : Program := .bare "" "" ""
def e0 : Env := launch0.env 0 0 0
theorem w_frames : about1.frames = Frame.invoking theMethod args0 :: below0 := rfl
set_option maxRecDepth 65536 in
theorem w_args : argsFit about1.vm theMethod args0 = true := by decide +kernel
set_option maxRecDepth 65536 in
theorem w_heap : heapFits about1 = true := by decide +kernel
set_option maxRecDepth 65536 in
theorem w_runnable : about1.curStatus? = some .runnable := by decide +kernel
set_option maxRecDepth 65536 in
theorem w_alone : about1.alone = true := by decide +kernel
set_option maxRecDepth 65536 in
theorem w_named : about1.methodNamed? x = some theMethod := by decide +kernel
set_option maxRecDepth 65536 in
theorem w_hears : about1.hears theMethod below0 = true := by decide +kernel
set_option maxRecDepth 65536 in
theorem w_ripe : about1.ripe theMethod args0 below0 = true := by decide +kernel
theorem w_running : about1.status = .running := rfl
set_option maxRecDepth 65536 in
theorem w_room : about1.hasRoom e0.platform room_1 = true :=
  launch0.hasRoom_least _ room_1 (by decide +kernel) (by decide +kernel) (by decide +kernel) (by decide +kernel) (by decide +kernel) (by decide +kernel)
theorem allAtoms_all (ts : List Jvm.Cond) (a : Array Jvm.Value) (st : Jvm.State) : (allAtoms ts).before a st = ts.all (fun c => c.before a st) := by
  induction ts with
  | nil => rfl
  | cons c t ih =>
    show (Jvm.Cond.and c (allAtoms t)).before a st = _
    rw [Jvm.Cond.before_and, ih, List.all_cons]
def words1 : List Jvm.Cond := Jvm.Cond.code x code maxLocals ret :: tables_1
/-- a 'code' word, met by the world's own term for the bytes: nothing is compared byte by byte -/
theorem code_word {y : MethodName} {bytes : ByteArray} {mx : Nat} {rt : Option FieldType} {a : Array Value} {s : State} {m : MethodId} {meth : Method} {c : Code} (h1 : s.methodNamed? y = some m) (h2 : s.vm.method? m = some meth) (h3 : meth.code = some c) (h4 : c.code = bytes)
    (h5 : (c.maxLocals == mx && c.exceptionTable.isEmpty && decide (c.maxStack ≤ mostOperands) && decide (meth.sig.returnType = rt) && !meth.locks && decide (parseMethodDescriptor y.desc = some meth.sig)) = true) : (Jvm.Cond.code y bytes mx rt).before a s = true := by
  simp only [Bool.and_eq_true, beq_iff_eq, Bool.not_eq_true', decide_eq_true_eq] at h5
  obtain ⟨⟨⟨⟨⟨g1, g2⟩, g3⟩, g4⟩, g5⟩, g6⟩ := h5
  simp [Cond.before, Cond.holds, Cond.value, h1, h2, h3, h4, g1, g2, g3, g4, g5, g6]
def isCode : Jvm.Cond → Bool
  | .code _ _ _ _ => true
  | _ => false
theorem all_split {L : List Jvm.Cond} {P : Jvm.Cond → Bool} (h1 : L.all (fun c => isCode c || P c) = true) (h2 : ∀ c ∈ L.filter isCode, P c = true) : L.all P = true := by
  refine List.all_eq_true.mpr fun c hc => ?_
  have h := List.all_eq_true.mp h1 c hc
  rcases Bool.eq_false_or_eq_true (isCode c) with hi | hi
  · exact h2 c (List.mem_filter.mpr ⟨hc, hi⟩)
  · simpa [hi] using h
set_option maxRecDepth 65536 in
theorem w_c0 : (Jvm.Cond.code x code maxLocals ret).before args0 about1 = true := code_word (m := ⟨1, 1⟩) (meth := k1m1) (c := k1c1) (by decide +kernel) rfl rfl rfl (by decide +kernel)
set_option maxRecDepth 65536 in
theorem w_c1 : (Jvm.Cond.code ({ cls := "com/example/locatree/locatree/core/Rounding", name := "ofSum", desc := "(DDD)D" } : Jvm.MethodName) prog_5_method_2_code (10 : Nat) (Option.some Jvm.ClassFile.FieldType.double)).before args0 about1 = true := code_word (m := ⟨2, 1⟩) (meth := k2m1) (c := k2c1) (by decide +kernel) rfl rfl rfl (by decide +kernel)
def codes1 : List Jvm.Cond := [Jvm.Cond.code x code maxLocals ret, Jvm.Cond.code ({ cls := "com/example/locatree/locatree/core/Rounding", name := "ofSum", desc := "(DDD)D" } : Jvm.MethodName) prog_5_method_2_code (10 : Nat) (Option.some Jvm.ClassFile.FieldType.double)]
set_option maxRecDepth 65536 in
theorem codes_eq : words1.filter isCode = codes1 := rfl
theorem w_codes : ∀ c ∈ words1.filter isCode, c.before args0 about1 = true := by
  rw [codes_eq]
  intro c hc
  simp only [codes1, List.mem_cons, List.not_mem_nil, or_false] at hc
  rcases hc with rfl | rfl
  · exact w_c0
  · exact w_c1
set_option maxRecDepth 65536 in
theorem w_t1 : words1.all (fun c => isCode c || c.before args0 about1) = true := by decide +kernel
theorem w_tables : (allAtoms (Jvm.Cond.code x code maxLocals ret :: tables_1)).before args0 about1 = true := by
  rw [allAtoms_all]
  show words1.all (fun c => c.before args0 about1) = true
  refine all_split ?_ w_codes
  rw [w_t1]
set_option maxRecDepth 65536 in
theorem w_case : (Jvm.Cond.and given_1 narrow_1).before args0 about1 = true := by decide +kernel
theorem w_applies : (headSpec (Jvm.Cond.code x code maxLocals ret :: tables_1) room_1).applies x e0.platform about1 = true :=
  (Spec.applies_iff w_frames).mpr ⟨w_running, w_runnable, w_alone, w_named, w_hears, w_ripe, w_room, w_tables⟩
theorem atStart : AtStart classFile x code maxLocals ret World_1 tables_1 room_1 Calls_1 rest_1 Pre_1 launch0 p0 e0 about1 theMethod args0 below0 :=
  ⟨lists_1, trivial, launch0.admits_env _ _ _, launch0.least_env, fairChoices_fair.cas, fairChoices_fair.clock, w_frames, w_args, w_heap, w_applies, trivial, trivial, w_case⟩
end start1
theorem witness_1 : WitnessClaimed_1 := ⟨start1.p0, start1.e0, start1.about1, start1.theMethod, start1.args0, start1.below0, start1.atStart⟩
end Jvm.Pilot.@@N@@
