import JvmDerived
import JvmDerived.Pilot.@@N@@Statement
import JvmDerived.Pilot.@@N@@Code
set_option linter.unusedVariables false
set_option linter.unusedSimpArgs false
namespace Jvm.RoadKit
open Sem ClassFile Op Lib Jvm.Stand Jvm.Free Jvm.LawKit
section New
variable {p : Program} {l : Launch} {e : Env} {R : Room} {s : State} {m : MethodId} {args : Array Value} {below : List Frame} {meth : Method} {c : Code} {T : State} {locs : List Loc} {cells slots : Nat}
theorem retI (X : Stand p l e R s m args below meth c T locs cells slots) (hx : p.tables.exec = Jvm.exec) {pc : Nat} {Ls : Array Slot} {z : Int32} {rest : List Value} (hret : meth.sig.returnType = some .int) (hd : decode c.code pc = .ok (.ireturn, 1)) {fs : List Frame}
    (hl : ∀ (f : JFrame) (acts : List Action), f.method = m → f.locked = none → f.entered = [] → (doReturn e (T.setTop f) acts (some (.int z))).1 = T.setFrames fs) : Steps p.tables e below (T.setTop (mkF m pc Ls (.int z :: rest))) (T.setFrames fs) := by
  have hm' : T.vm.method? m = some meth := X.method'
  have hn : narrow .int (.int z) = .int z := rfl
  show Steps p.tables e below (T.setTop { method := m, pc := pc, locals := Ls, stack := _ :: rest, locked := none }) _
  jvm_step X.here [X.here.top, hx, hd, hm', hret, hn]
  first | (intro acts; rw [hl _ acts rfl rfl rfl]) | rw [hl _ _ rfl rfl rfl]
  exact Steps.refl _
end New
end Jvm.RoadKit
namespace Jvm.Pilot.@@N@@.FV
open Jvm.FP.Core
/-- the datum is `i * 2^e` (a zero of either sign is 0) -/
def Val (i e : Int) : Datum → Prop
  | .fin s c q => signed s c * ((2 ^ (q - e).toNat : Nat) : Int) = i * ((2 ^ (e - q).toNat : Nat) : Int)
  | _ => False
theorem p2 (n : Nat) : (0 : Int) < ((2 ^ n : Nat) : Int) := by have := Nat.two_pow_pos n; omega
theorem p2ne (n : Nat) : ((2 ^ n : Nat) : Int) ≠ 0 := by have := p2 n; omega
theorem p2add (a b : Nat) : ((2 ^ (a + b) : Nat) : Int) = ((2 ^ a : Nat) : Int) * ((2 ^ b : Nat) : Int) := by rw [Nat.pow_add, Int.natCast_mul]
theorem units_int (s : Bool) (c : Nat) (q m : Int) : signed s (inUnits c q m) = signed s c * ((2 ^ (q - m).toNat : Nat) : Int) := by
  unfold inUnits; rw [signed_mul]
theorem val_iff {i e m : Int} {s : Bool} {c : Nat} {q : Int} (h1 : m ≤ q) (h2 : m ≤ e) :
    Val i e (.fin s c q) ↔ signed s c * ((2 ^ (q - m).toNat : Nat) : Int) = i * ((2 ^ (e - m).toNat : Nat) : Int) := by
  show signed s c * ((2 ^ (q - e).toNat : Nat) : Int) = i * ((2 ^ (e - q).toNat : Nat) : Int) ↔ _
  by_cases h : e ≤ q
  · rw [show (e - q).toNat = 0 by omega, show (q - m).toNat = (q - e).toNat + (e - m).toNat by omega, p2add, ← Int.mul_assoc]
    constructor
    · intro h3; rw [h3]; simp
    · intro h3; have := Int.eq_of_mul_eq_mul_right (p2ne _) h3; rw [this]; simp
  · rw [show (q - e).toNat = 0 by omega, show (e - m).toNat = (e - q).toNat + (q - m).toNat by omega, p2add, ← Int.mul_assoc]
    constructor
    · intro h3; rw [← h3]; simp
    · intro h3; have := Int.eq_of_mul_eq_mul_right (p2ne _) h3; rw [← this]; simp
theorem val_fin {i e : Int} {d : Datum} (h : Val i e d) : ∃ s c q, d = .fin s c q := by
  cases d with
  | nan => exact h.elim
  | inf => exact h.elim
  | fin s c q => exact ⟨s, c, q, rfl⟩
theorem val_ne_nan {i e : Int} {d : Datum} (h : Val i e d) : d ≠ .nan := by
  obtain ⟨s, c, q, rfl⟩ := val_fin h; exact Datum.noConfusion
theorem val_abs {i e : Int} {s : Bool} {c : Nat} {q : Int} (h : Val i e (.fin s c q)) : c * 2 ^ (q - e).toNat = i.natAbs * 2 ^ (e - q).toNat := by
  have := congrArg Int.natAbs (show signed s c * ((2 ^ (q - e).toNat : Nat) : Int) = i * ((2 ^ (e - q).toNat : Nat) : Int) from h)
  rw [Int.natAbs_mul, Int.natAbs_mul, natAbs_signed, Int.natAbs_natCast, Int.natAbs_natCast] at this
  exact this
theorem val_zero {i e : Int} {s : Bool} {c : Nat} {q : Int} (h : Val i e (.fin s c q)) : c = 0 ↔ i = 0 := by
  have h1 := val_abs h
  have p1 := Nat.two_pow_pos (q - e).toNat
  have p2 := Nat.two_pow_pos (e - q).toNat
  constructor
  · rintro rfl
    rw [Nat.zero_mul] at h1
    have := Nat.mul_eq_zero.mp h1.symm
    omega
  · rintro rfl
    rw [show (0 : Int).natAbs = 0 from rfl, Nat.zero_mul] at h1
    have := Nat.mul_eq_zero.mp h1
    omega
theorem val_sign {i e : Int} {s : Bool} {c : Nat} {q : Int} (h : Val i e (.fin s c q)) (hi : i ≠ 0) : s = decide (i < 0) := by
  have h' : signed s c * ((2 ^ (q - e).toNat : Nat) : Int) = i * ((2 ^ (e - q).toNat : Nat) : Int) := h
  have hc : 0 < c := by have := val_zero h; omega
  have a1 := p2 (q - e).toNat
  have a2 := p2 (e - q).toNat
  have h1 : decide (signed s c < 0) = s := signed_lt_zero s hc
  rw [← h1, decide_eq_decide]
  constructor
  · intro hlt
    have := Int.mul_neg_of_neg_of_pos hlt a1
    rw [h'] at this
    exact Int.lt_of_not_ge fun hge => by have := Int.mul_nonneg hge (Int.le_of_lt a2); omega
  · intro hlt
    have := Int.mul_neg_of_neg_of_pos hlt a2
    rw [← h'] at this
    exact Int.lt_of_not_ge fun hge => by have := Int.mul_nonneg hge (Int.le_of_lt a1); omega
theorem val_signed {i e : Int} {s : Bool} {c : Nat} {q : Int} (h : Val i e (.fin s c q)) : signed s i.natAbs = i := by
  by_cases hi : i = 0
  · rw [hi]; exact signed_zero s
  · rw [val_sign h hi]; unfold signed
    by_cases h : i < 0 <;> simp [h] <;> omega
theorem val_whole {i : Int} {d : Datum} : Val i 0 d ↔ Whole i d := by
  cases d with
  | nan => exact Iff.rfl
  | inf => exact Iff.rfl
  | fin s c q =>
    show signed s c * ((2 ^ (q - 0).toNat : Nat) : Int) = i * ((2 ^ (0 - q).toNat : Nat) : Int) ↔ signed s (c * 2 ^ q.toNat) = i * ((2 ^ (-q).toNat : Nat) : Int)
    rw [signed_mul, show (q - 0).toNat = q.toNat by omega, show (0 - q).toNat = (-q).toNat by omega]
theorem val_shift {i e : Int} {d : Datum} (k : Nat) : Val i e d ↔ Val (i * ((2 ^ k : Nat) : Int)) (e - k) d := by
  cases d with
  | nan => exact Iff.rfl
  | inf => exact Iff.rfl
  | fin s c q =>
    rw [val_iff (m := min q (e - k)) (by omega) (by omega), val_iff (m := min q (e - k)) (by omega) (by omega),
      show (e - min q (e - k)).toNat = k + (e - k - min q (e - k)).toNat by omega, p2add, Int.mul_assoc]
theorem val_zero_any {e e' : Int} {d : Datum} (h : Val 0 e d) : Val 0 e' d := by
  obtain ⟨s, c, q, rfl⟩ := val_fin h
  have := (val_zero h).mpr rfl
  subst this
  show signed s 0 * _ = 0 * _
  rw [signed_zero]; simp
theorem val_ofInt (i : Int) : Val i 0 (ofInt i) := val_whole.mpr (whole_ofInt i)
theorem val_sum {i j e : Int} {x y : Datum} (hx : Val i e x) (hy : Val j e y) : Val (i + j) e (exactSum x y) := by
  obtain ⟨s, c, q, rfl⟩ := val_fin hx
  obtain ⟨t, d, r, rfl⟩ := val_fin hy
  rw [val_iff (m := min (min q r) e) (by omega) (by omega)] at hx hy
  show Val (i + j) e (.fin (sumSign s t (sumUnits s c q t d r (min q r))) (sumUnits s c q t d r (min q r)).natAbs (min q r))
  rw [val_iff (m := min (min q r) e) (by omega) (by omega), signed_sumSign]
  unfold sumUnits
  rw [units_int, units_int, Int.add_mul, Int.add_mul, Int.mul_assoc, Int.mul_assoc, ← p2add, ← p2add,
    show (q - min q r).toNat + (min q r - min (min q r) e).toNat = (q - min (min q r) e).toNat by omega,
    show (r - min q r).toNat + (min q r - min (min q r) e).toNat = (r - min (min q r) e).toNat by omega, hx, hy]
theorem val_neg {i e : Int} {x : Datum} (hx : Val i e x) : Val (-i) e (negate x) := by
  obtain ⟨s, c, q, rfl⟩ := val_fin hx
  have h : signed s c * ((2 ^ (q - e).toNat : Nat) : Int) = i * ((2 ^ (e - q).toNat : Nat) : Int) := hx
  show signed (!s) c * ((2 ^ (q - e).toNat : Nat) : Int) = -i * ((2 ^ (e - q).toNat : Nat) : Int)
  rw [signed_not, Int.neg_mul, Int.neg_mul, h]
theorem val_prod {i j e g : Int} {x y : Datum} (hx : Val i e x) (hy : Val j g y) : Val (i * j) (e + g) (exactProduct x y) := by
  obtain ⟨s, c, q, rfl⟩ := val_fin hx
  obtain ⟨t, d, r, rfl⟩ := val_fin hy
  rw [val_iff (m := min q e) (by omega) (by omega)] at hx
  rw [val_iff (m := min r g) (by omega) (by omega)] at hy
  show Val (i * j) (e + g) (.fin (s != t) (c * d) (q + r))
  rw [val_iff (m := min q e + min r g) (by omega) (by omega), signed_xor,
    show (q + r - (min q e + min r g)).toNat = (q - min q e).toNat + (r - min r g).toNat by omega,
    show (e + g - (min q e + min r g)).toNat = (e - min q e).toNat + (g - min r g).toNat by omega, p2add, p2add]
  calc signed s c * signed t d * (((2 ^ (q - min q e).toNat : Nat) : Int) * ((2 ^ (r - min r g).toNat : Nat) : Int))
      = (signed s c * ((2 ^ (q - min q e).toNat : Nat) : Int)) * (signed t d * ((2 ^ (r - min r g).toNat : Nat) : Int)) := by ac_rfl
    _ = _ := by rw [hx, hy]; ac_rfl
/-- a number of at most p digits, its exponent in range, rounds to itself -/
theorem val_round {f : Fmt} (hf : Good f) {i e : Int} {x : Datum} (hx : Val i e x) (hi : i.natAbs < 2 ^ f.p) (h1 : f.qmin ≤ e) (h2 : e ≤ f.qmax) : Val i e (round f x) := by
  obtain ⟨s, c, q, rfl⟩ := val_fin hx
  have ha := val_abs hx
  have hs := val_signed hx
  have e1 : round f (.fin s c q) = round f (.fin s i.natAbs e) := roundRatio_congr (by decide) (by decide) (by simpa using ha)
  obtain ⟨c', q', h3, h4⟩ := round_exact hf s hi h1 h2
  have hfit := round_fits hf (.fin s i.natAbs e)
  rw [e1]
  rw [h3] at hfit ⊢
  rw [val_iff (m := f.qmin) hfit.2.1 h1, ← units_int, h4, units_int, hs]
theorem val_order {i j e : Int} {x y : Datum} (hx : Val i e x) (hy : Val j e y) : order x y = some (compare i j) := by
  obtain ⟨s, c, q, rfl⟩ := val_fin hx
  obtain ⟨t, d, r, rfl⟩ := val_fin hy
  rw [val_iff (m := min (min q r) e) (by omega) (by omega)] at hx hy
  show some (compare (signed s (inUnits c q (min q r))) (signed t (inUnits d r (min q r)))) = _
  rw [← compare_mul_pos (signed s _) _ _ (p2 (min q r - min (min q r) e).toNat), units_int, units_int, Int.mul_assoc, Int.mul_assoc, ← p2add, ← p2add,
    show (q - min q r).toNat + (min q r - min (min q r) e).toNat = (q - min (min q r) e).toNat by omega,
    show (r - min q r).toNat + (min q r - min (min q r) e).toNat = (r - min (min q r) e).toNat by omega, hx, hy, compare_mul_pos _ _ _ (p2 _)]
theorem scale_eq {X Y P N t : Nat} (h : X * 2 ^ (P + t) = Y * 2 ^ (N + t)) : X * 2 ^ P = Y * 2 ^ N := by
  rw [Nat.pow_add, Nat.pow_add, ← Nat.mul_assoc, ← Nat.mul_assoc] at h
  exact Nat.eq_of_mul_eq_mul_right (Nat.two_pow_pos t) h
theorem ratio_cross {c d n m : Nat} {q r e g : Int} (hx : c * 2 ^ (q - e).toNat = n * 2 ^ (e - q).toNat) (hy : d * 2 ^ (r - g).toNat = m * 2 ^ (g - r).toNat) :
    c * m * 2 ^ ((q - r) - (e - g)).toNat = n * d * 2 ^ ((e - g) - (q - r)).toNat := by
  have e1 : c * m * 2 ^ ((q - e).toNat + (g - r).toNat) = n * d * 2 ^ ((e - q).toNat + (r - g).toNat) := by
    rw [Nat.pow_add, Nat.pow_add]
    calc c * m * (2 ^ (q - e).toNat * 2 ^ (g - r).toNat) = (c * 2 ^ (q - e).toNat) * (m * 2 ^ (g - r).toNat) := by ac_rfl
      _ = (n * 2 ^ (e - q).toNat) * (d * 2 ^ (r - g).toNat) := by rw [hx, hy]
      _ = _ := by ac_rfl
  have k : ((q - e).toNat : Int) + (g - r).toNat - ((e - q).toNat + (r - g).toNat) = (q - r) - (e - g) := by omega
  refine scale_eq (t := min ((q - e).toNat + (g - r).toNat) ((e - q).toNat + (r - g).toNat)) ?_
  rw [show ((q - r) - (e - g)).toNat + min ((q - e).toNat + (g - r).toNat) ((e - q).toNat + (r - g).toNat) = (q - e).toNat + (g - r).toNat by omega,
    show ((e - g) - (q - r)).toNat + min ((q - e).toNat + (g - r).toNat) ((e - q).toNat + (r - g).toNat) = (e - q).toNat + (r - g).toNat by omega]
  exact e1
/-- a quotient is the rounding of the ratio of the two values -/
theorem quot_ratio {f : Fmt} {s t : Bool} {c d : Nat} {q r i j e g : Int} (hx : Val i e (.fin s c q)) (hy : Val j g (.fin t d r)) (hj : j ≠ 0) :
    quotient f (.fin s c q) (.fin t d r) = roundRatio f (s != t) i.natAbs j.natAbs (e - g) := by
  have hd : d ≠ 0 := fun z => hj ((val_zero hy).mp z)
  show (if d = 0 then _ else roundRatio f (s != t) c d (q - r)) = _
  rw [if_neg hd]
  exact roundRatio_congr (by omega) (by omega) (ratio_cross (val_abs hx) (val_abs hy))
theorem val_quot {f : Fmt} (hf : Good f) {i j k e g : Int} {x y : Datum} (hx : Val i e x) (hy : Val j g y) (hj : j ≠ 0) (hk : i = k * j) (hb : k.natAbs < 2 ^ f.p) (h1 : f.qmin ≤ e - g) (h2 : e - g ≤ f.qmax) : Val k (e - g) (quotient f x y) := by
  obtain ⟨s, c, q, rfl⟩ := val_fin hx
  obtain ⟨t, d, r, rfl⟩ := val_fin hy
  rw [quot_ratio hx hy hj]
  have hv : Val k (e - g) (.fin (s != t) k.natAbs (e - g)) := by
    show signed (s != t) k.natAbs * _ = k * _
    congr 1
    by_cases h0 : k = 0
    · rw [h0]; exact signed_zero _
    · have hi : i ≠ 0 := by rw [hk]; exact Int.mul_ne_zero h0 hj
      rw [val_sign hx hi, val_sign hy hj, hk]
      have q : (decide (k * j < 0) != decide (j < 0)) = decide (k < 0) := by
        rcases Int.lt_or_gt_of_ne hj with hj | hj <;> rcases Int.lt_or_gt_of_ne h0 with h0 | h0
        · have := Int.mul_pos_of_neg_of_neg h0 hj
          rw [decide_eq_false (show ¬ k * j < 0 by omega), decide_eq_true hj, decide_eq_true h0]; rfl
        · have := Int.mul_neg_of_pos_of_neg h0 hj
          rw [decide_eq_true this, decide_eq_true hj, decide_eq_false (show ¬ k < 0 by omega)]; rfl
        · have := Int.mul_neg_of_neg_of_pos h0 hj
          rw [decide_eq_true this, decide_eq_false (show ¬ j < 0 by omega), decide_eq_true h0]; rfl
        · have := Int.mul_pos h0 hj
          rw [decide_eq_false (show ¬ k * j < 0 by omega), decide_eq_false (show ¬ j < 0 by omega), decide_eq_false (show ¬ k < 0 by omega)]; rfl
      rw [q]; unfold signed
      by_cases h : k < 0 <;> simp [h] <;> omega
  have e1 : roundRatio f (s != t) i.natAbs j.natAbs (e - g) = round f (.fin (s != t) k.natAbs (e - g)) := by
    refine roundRatio_congr (by omega) (by decide) ?_
    rw [hk, Int.natAbs_mul]; simp
  rw [e1]
  exact val_round hf hv hb h1 h2
/-! on the bits of a double -/
def DV (i e : Int) (a : UInt64) : Prop := Val i e (val64 a)
theorem DV.fin {i e : Int} {a : UInt64} (h : DV i e a) : DFin a := val_fin h
theorem DV.fin64 {i e : Int} {a : UInt64} (h : DV i e a) : Jvm.Free.Fl.Fin64 a := Jvm.Free.Fl.fin64_core.mpr h.fin
theorem DV.nn {i e : Int} {a : UInt64} (h : DV i e a) : Jvm.Free.Fl.NoNaN64 a := h.fin64.noNaN
theorem dv_lit {i e : Int} {a : UInt64} (s : Bool) (c : Nat) (q : Int) (h1 : val64 a = .fin s c q) (h2 : signed s c * ((2 ^ (q - e).toNat : Nat) : Int) = i * ((2 ^ (e - q).toNat : Nat) : Int)) : DV i e a := by
  unfold DV; rw [h1]; exact h2
theorem dv_int {i : Int} {a : UInt64} : DV i 0 a ↔ DInt i a := val_whole
theorem dv_shift {i e : Int} {a : UInt64} (k : Nat) : DV i e a ↔ DV (i * ((2 ^ k : Nat) : Int)) (e - k) a := val_shift k
theorem dv_add {i j e : Int} {a b : UInt64} (ha : DV i e a) (hb : DV j e b) (h : (i + j).natAbs < 2 ^ 53) (h1 : -1074 ≤ e) (h2 : e ≤ 971) : DV (i + j) e (FP.dadd a b) := by
  unfold DV; rw [show FP.dadd a b = dadd a b from rfl, val64_dadd]; exact val_round good_b64 (val_sum ha hb) h h1 h2
theorem dv_sub {i j e : Int} {a b : UInt64} (ha : DV i e a) (hb : DV j e b) (h : (i - j).natAbs < 2 ^ 53) (h1 : -1074 ≤ e) (h2 : e ≤ 971) : DV (i - j) e (FP.dsub a b) := by
  unfold DV; rw [show FP.dsub a b = dsub a b from rfl, val64_dsub]; exact val_round good_b64 (val_sum ha (val_neg hb)) h h1 h2
theorem dv_mul {i j e g : Int} {a b : UInt64} (ha : DV i e a) (hb : DV j g b) (h : (i * j).natAbs < 2 ^ 53) (h1 : -1074 ≤ e + g) (h2 : e + g ≤ 971) : DV (i * j) (e + g) (FP.dmul a b) := by
  unfold DV; rw [show FP.dmul a b = dmul a b from rfl, val64_dmul]; exact val_round good_b64 (val_prod ha hb) h h1 h2
theorem dv_div {i j k e g : Int} {a b : UInt64} (ha : DV i e a) (hb : DV j g b) (hj : j ≠ 0) (hk : i = k * j) (h : k.natAbs < 2 ^ 53) (h1 : -1074 ≤ e - g) (h2 : e - g ≤ 971) : DV k (e - g) (FP.ddiv a b) := by
  unfold DV; rw [show FP.ddiv a b = ddiv a b from rfl, val64_ddiv]; exact val_quot good_b64 ha hb hj hk h h1 h2
theorem dv_cmp {i j e : Int} {a b : UInt64} (ha : DV i e a) (hb : DV j e b) : FP.dcmp a b = some (compare i j) := val_order ha hb
theorem dv_i2d (n : Int32) : DV n.toInt 0 (FP.i2d n) := dv_int.mpr (i2d_int n)
theorem dv_l2d {n : Int64} (h : n.toInt.natAbs ≤ 2 ^ 53) : DV n.toInt 0 (FP.l2d n) := dv_int.mpr (l2d_int h)
/-- what dcmpl and dcmpg push -/
theorem cv_eq {i j e : Int} {a b : UInt64} (ha : DV i e a) (hb : DV j e b) (o : Jvm.ClassFile.CmpOp) (h : i = j) : Jvm.Op.cmpValue (FP.dcmp a b) o = 0 := by
  rw [dv_cmp ha hb, (compare_eq_iff i j).mpr h]; cases o <;> rfl
theorem cv_lt {i j e : Int} {a b : UInt64} (ha : DV i e a) (hb : DV j e b) (o : Jvm.ClassFile.CmpOp) (h : i < j) : Jvm.Op.cmpValue (FP.dcmp a b) o = -1 := by
  rw [dv_cmp ha hb, (compare_lt_iff i j).mpr h]; cases o <;> rfl
theorem cv_gt {i j e : Int} {a b : UInt64} (ha : DV i e a) (hb : DV j e b) (o : Jvm.ClassFile.CmpOp) (h : j < i) : Jvm.Op.cmpValue (FP.dcmp a b) o = 1 := by
  rw [dv_cmp ha hb, (compare_gt_iff i j).mpr h]; cases o <;> rfl
theorem cv_neg {i j e : Int} {a b : UInt64} (ha : DV i e a) (hb : DV j e b) (o : Jvm.ClassFile.CmpOp) : (Jvm.Op.cmpValue (FP.dcmp a b) o < (0 : Int32)) ↔ i < j := by
  rcases Int.lt_trichotomy i j with h | h | h
  · rw [cv_lt ha hb o h]; exact ⟨fun _ => h, fun _ => by decide⟩
  · rw [cv_eq ha hb o h]; exact ⟨fun z => absurd z (by decide), fun z => by omega⟩
  · rw [cv_gt ha hb o h]; exact ⟨fun z => absurd z (by decide), fun z => by omega⟩
theorem cv_pos {i j e : Int} {a b : UInt64} (ha : DV i e a) (hb : DV j e b) (o : Jvm.ClassFile.CmpOp) : ((0 : Int32) < Jvm.Op.cmpValue (FP.dcmp a b) o) ↔ j < i := by
  rcases Int.lt_trichotomy i j with h | h | h
  · rw [cv_lt ha hb o h]; exact ⟨fun z => absurd z (by decide), fun z => by omega⟩
  · rw [cv_eq ha hb o h]; exact ⟨fun z => absurd z (by decide), fun z => by omega⟩
  · rw [cv_gt ha hb o h]; exact ⟨fun _ => h, fun _ => by decide⟩
theorem dv_neg {i e : Int} {a : UInt64} (ha : DV i e a) : DV (-i) e (FP.dneg a) := by
  unfold DV; rw [Jvm.FP.val64_dneg]; exact val_neg ha
end Jvm.Pilot.@@N@@.FV
namespace Jvm.Pilot.@@N@@
open Jvm Jvm.ClassFile Sem Op Lib Jvm.Free Jvm.Stand Jvm.LawKit Jvm.RoadKit Bundle Jvm.Pilot.@@N@@.Jvm.D
theorem own_wS {Z : State} {a0 : Array Value} (hw : ∀ d ∈ tables_1, d.before a0 Z = true) : ∀ a ∈ Bundle.stringAtoms, a.before a0 Z = true := by
  intro a ha
  simp only [Bundle.stringAtoms, List.mem_cons, List.not_mem_nil, or_false] at ha
  rcases ha with rfl | rfl | rfl | rfl | rfl | rfl | rfl
  · exact (hw _ (List.mem_of_getElem? (i := 15) rfl))
  · exact (hw _ (List.mem_of_getElem? (i := 16) rfl))
  · exact (hw _ (List.mem_of_getElem? (i := 17) rfl))
  · exact (hw _ (List.mem_of_getElem? (i := 18) rfl))
  · exact (hw _ (List.mem_of_getElem? (i := 19) rfl))
  · exact (hw _ (List.mem_of_getElem? (i := 20) rfl))
  · exact (hw _ (List.mem_of_getElem? (i := 21) rfl))
theorem d2_0 : decode jdk_30_method_1_code 0 = .ok (.aload_n 0, 1) := by decide +kernel
theorem d2_1 : decode jdk_30_method_1_code 1 = .ok (.invokespecial 1, 3) := by decide +kernel
theorem d2_4 : decode jdk_30_method_1_code 4 = .ok (.return_, 1) := by decide +kernel
theorem pn_2 : plainName "java/lang/Record" = true := by first | (simp [plainName, overriddenIn]; done) | decide +kernel
theorem ef_rm2 (m : MethodId) (x0 : Addr) : entryFrame m #[(.ref x0)] 1 = mkF m 0 #[.val (.ref x0)] [] := by first | (simp [entryFrame, mkF, argsToLocals, Value.category]; done) | rfl
def Q_rm2 (Z : State) (a : Addr) (h0 : Heap) (n0 : Nat) (rv : Option Value) (h : Heap) (L : List Loc) : Prop := rv = none ∧ Fr n0 L ∧ h = h0
set_option maxRecDepth 65536 in
set_option maxHeartbeats 40000000 in
theorem rm2 (l : Launch) (Z : State) (a0 : Array Value) (hw : ∀ d ∈ tables_1, d.before a0 Z = true) (ws : List Jvm.Cond) (a : Addr) (h0 : Heap) (n0 : Nat) (Z0 : n0 ≤ h0.size) :
    MetFree l (⟨"java/lang/Record", "<init>", "()V"⟩ : MethodName) (head1 (Jvm.Cond.code (⟨"java/lang/Record", "<init>", "()V"⟩ : MethodName) jdk_30_method_1_code 1 none :: ws) ({ frames := 1, cells := 0, slots := 0, locals := 12 } : Room)) (fun av U => av = #[(.ref a)] ∧ Z.Warmed39 U.vm ∧ U.heap = h0) (fun _ _ _ _ _ => True) (fun _ U o U' => ∃ rv L, o = .returned rv ∧ Q_rm2 Z a h0 n0 rv U'.heap L ∧ FrameEnd U o U' L ({ frames := 1, cells := 0, slots := 0, locals := 12 } : Room).cells ({ frames := 1, cells := 0, slots := 0, locals := 12 } : Room).slots) := by
  refine MetFree.of_bodySF (plainFor_of_name pn_2) hisR ?_
  intro p e s m args below meth c s₁ Bd hml0 hP hK
  obtain ⟨rfl, hZ, hh⟩ := hP
  have hx := Bd.exec
  have hby := Bd.bytes
  have hml : c.maxLocals = 1 := hml0
  have hown : s.vm.findClass "java/lang/Record" = some m.cls := findClass_of_methodNamed Bd.named
  have hnm := (name_of_methodNamed Bd.named Bd.method).1
  have X0 : Stand p l e ({ frames := 1, cells := 0, slots := 0, locals := 12 } : Room) s m #[(.ref a)] below meth c s₁ [] 0 0 := Stand.of_body Bd
  have e0 : s₁.heap = h0 := by rw [← hh, Bd.state]; rfl
  have N0 := Fr.nil n0
  have pre0 : ∀ t, Steps p.tables e below (s₁.setTop (mkF m 0 #[.val (.ref a)] [])) t → Steps p.tables e below (s₁.setTop (entryFrame m #[(.ref a)] 1)) t := fun t k => castTop (ef_rm2 m a) k
  have sg1 : ∀ target, Steps p.tables e below (s₁.setTop (mkF m 1 #[.val (.ref a)] [(.ref a)])) target → Steps p.tables e below (s₁.setTop (mkF m 0 #[.val (.ref a)] [])) target := by
    intro target kt
    show Steps p.tables e below (s₁.setTop (mkF m 0 #[.val (.ref a)] [])) _
    refine XS.aloadN X0.here hx rfl (hb hby d2_0) rfl rfl ?_
    exact kt
  obtain ⟨T2, X2, e2, st2⟩ := initO X0 hx hZ hown (hw _ (List.mem_of_getElem? (i := 11) rfl)) (hw _ (List.mem_of_getElem? (i := 12) rfl)) (hw _ (List.mem_of_getElem? (i := 13) rfl)) e0 (g := (mkF m 1 #[.val (.ref a)] [(.ref a)])) rfl (by rw [hml]; rfl) rfl (hb hby d2_1) (by decide) (W := 0) (by show 2 * 0 + _ ≤ _; exact Nat.le_of_eq rfl) (by decide)
  obtain ⟨fs, hr, hrun, hended, hW, hsame⟩ := X2.leave (v := none) (fun _ => rfl)
  refine ⟨_, _, pre0 _ ?_, hrun, hended, _, _, rfl, ?_, ⟨_, rfl⟩, hW, hsame.mono (by decide) (by decide)⟩
  · show Steps p.tables e below (s₁.setTop (mkF m 0 #[.val (.ref a)] [])) _
    refine sg1 _ ?_
    refine st2 _ ?_
    show Steps p.tables e below (T2.setTop (mkF m 4 #[.val (.ref a)] [])) _
    exact X2.returnOut hx Bd.returns (hb hby d2_4) hr
  · show Q_rm2 Z a h0 n0 _ T2.heap _
    rw [e2]
    exact ⟨rfl, N0, rfl⟩
theorem own_fin_cmp {v : UInt64} (h : Jvm.Free.Fl.Fin64 v) : ¬ ((0 : Int32) < (cmpValue (FP.dcmp (v &&& 0x7fffffffffffffff) (9218868437227405311 : UInt64)) .g)) := by
  have q := (Jvm.Free.Fl.le_max_iff h.noNaN).mpr h
  intro z
  have e : FP.dcmp (v &&& 0x7fffffffffffffff) (9218868437227405311 : UInt64) = FP.dcmp (v &&& 0x7fffffffffffffff) Jvm.Free.Fl.maxD := rfl
  rw [e] at z
  revert q z
  generalize FP.dcmp (v &&& 0x7fffffffffffffff) Jvm.Free.Fl.maxD = o
  rcases o with _ | (_ | _ | _) <;> simp [Jvm.Free.Fl.relLe, cmpValue] <;> decide
theorem d5_0 : decode jdk_117_method_8_code 0 = .ok (.dload_n 0, 1) := by decide +kernel
theorem d5_1 : decode jdk_117_method_8_code 1 = .ok (.invokestatic 38, 3) := by decide +kernel
theorem pd_3 : parseMethodDescriptor "(D)D" = some ⟨[.double], some .double⟩ := by decide +kernel
theorem d5_4 : decode jdk_117_method_8_code 4 = .ok (.ldc2_w 111, 3) := by decide +kernel
theorem d5_7 : decode jdk_117_method_8_code 7 = .ok (.dcmp .g, 1) := by decide +kernel
theorem d5_8 : decode jdk_117_method_8_code 8 = .ok (.ifCond .gt 7, 3) := by decide +kernel
theorem d5_11 : decode jdk_117_method_8_code 11 = .ok (.iconst 1, 1) := by decide +kernel
theorem d5_12 : decode jdk_117_method_8_code 12 = .ok (.goto 4, 3) := by decide +kernel
theorem d5_16 : decode jdk_117_method_8_code 16 = .ok (.ireturn, 1) := by decide +kernel
theorem pn_5 : plainName "java/lang/Double" = true := by first | (simp [plainName, overriddenIn]; done) | decide +kernel
theorem ef_rm5 (m : MethodId) (x0 : UInt64) : entryFrame m #[(.double x0)] 2 = mkF m 0 #[.val (.double x0), .second] [] := by first | (simp [entryFrame, mkF, argsToLocals, Value.category]; done) | rfl
def Q_rm5 (Z : State) (v : UInt64) (h0 : Heap) (n0 : Nat) (rv : Option Value) (h : Heap) (L : List Loc) : Prop := rv = some (.int (1 : Int32)) ∧ Fr n0 L ∧ h = h0
set_option maxRecDepth 65536 in
set_option maxHeartbeats 40000000 in
theorem rm5 (l : Launch) (Z : State) (a0 : Array Value) (hw : ∀ d ∈ tables_1, d.before a0 Z = true) (ws : List Jvm.Cond) (v : UInt64) (h0 : Heap) (n0 : Nat) (Z0 : n0 ≤ h0.size) (hf : Jvm.Free.Fl.Fin64 v) :
    MetFree l (⟨"java/lang/Double", "isFinite", "(D)Z"⟩ : MethodName) (head1 (Jvm.Cond.code (⟨"java/lang/Double", "isFinite", "(D)Z"⟩ : MethodName) jdk_117_method_8_code 2 (some .boolean) :: ws) ({ frames := 1, cells := 0, slots := 0, locals := 13 } : Room)) (fun av U => av = #[(.double v)] ∧ Z.Warmed39 U.vm ∧ U.heap = h0) (fun _ _ _ _ _ => True) (fun _ U o U' => ∃ rv L, o = .returned rv ∧ Q_rm5 Z v h0 n0 rv U'.heap L ∧ FrameEnd U o U' L ({ frames := 1, cells := 0, slots := 0, locals := 13 } : Room).cells ({ frames := 1, cells := 0, slots := 0, locals := 13 } : Room).slots) := by
  refine MetFree.of_bodySF (plainFor_of_name pn_5) hisR ?_
  intro p e s m args below meth c s₁ Bd hml0 hP hK
  obtain ⟨rfl, hZ, hh⟩ := hP
  have hx := Bd.exec
  have hby := Bd.bytes
  have hml : c.maxLocals = 2 := hml0
  have hown : s.vm.findClass "java/lang/Double" = some m.cls := findClass_of_methodNamed Bd.named
  have hnm := (name_of_methodNamed Bd.named Bd.method).1
  have X0 : Stand p l e ({ frames := 1, cells := 0, slots := 0, locals := 13 } : Room) s m #[(.double v)] below meth c s₁ [] 0 0 := Stand.of_body Bd
  have e0 : s₁.heap = h0 := by rw [← hh, Bd.state]; rfl
  have N0 := Fr.nil n0
  have pre0 : ∀ t, Steps p.tables e below (s₁.setTop (mkF m 0 #[.val (.double v), .second] [])) t → Steps p.tables e below (s₁.setTop (entryFrame m #[(.double v)] 2)) t := fun t k => castTop (ef_rm5 m v) k
  have sg1 : ∀ target, Steps p.tables e below (s₁.setTop (mkF m 1 #[.val (.double v), .second] [(.double v)])) target → Steps p.tables e below (s₁.setTop (mkF m 0 #[.val (.double v), .second] [])) target := by
    intro target kt
    show Steps p.tables e below (s₁.setTop (mkF m 0 #[.val (.double v), .second] [])) _
    refine XS.dloadN X0.here hx rfl (hb hby d5_0) rfl ?_
    exact kt
  obtain ⟨T2, X2, e2, st2⟩ := natS X0 hx hZ hown (hw _ (List.mem_of_getElem? (i := 30) rfl)) (hw _ (List.mem_of_getElem? (i := 31) rfl)) (hw _ (List.mem_of_getElem? (i := 32) rfl)) (hw _ (List.mem_of_getElem? (i := 33) rfl)) (by decide) e0 (W := 0) (F := fun a' => a' = #[.double v] ∧ Jvm.Free.Fl.NoNaN64 v) (fun hc => Jvm.Free.Fl.Abs.absD_pays v hc (by decide) (by decide)) (g := (mkF m 1 #[.val (.double v), .second] [(.double v)])) rfl (by rw [hml]; rfl) (argsL := [(.double v)]) (rest := []) (lenOf pd_3 rfl) rfl (by show 2 * 0 + _ ≤ _; exact Nat.le_of_eq rfl) (hb hby d5_1) (by decide) (by decide) ⟨rfl, hf.noNaN⟩ rfl
  have sg3 : ∀ target, Steps p.tables e below (T2.setTop (mkF m 16 #[.val (.double v), .second] [(.int (1 : Int32))])) target → Steps p.tables e below (T2.setTop (mkF m 4 #[.val (.double v), .second] [(.double (v &&& 0x7fffffffffffffff))])) target := by
    intro target kt
    show Steps p.tables e below (T2.setTop (mkF m 4 #[.val (.double v), .second] [(.double (v &&& 0x7fffffffffffffff))])) _
    refine X2.ldc2DoubleC hx hown (mvT hZ (hw _ (List.mem_of_getElem? (i := 34) rfl))) (g := (mkF m 4 #[.val (.double v), .second] [(.double (v &&& 0x7fffffffffffffff))])) rfl (hb hby d5_4) _ ?_
    show Steps p.tables e below (T2.setTop (mkF m 7 #[.val (.double v), .second] [(.double (9218868437227405311 : UInt64)), (.double (v &&& 0x7fffffffffffffff))])) _
    refine XS.dcmpS X2.here hx rfl (v := (cmpValue (FP.dcmp (v &&& 0x7fffffffffffffff) (9218868437227405311 : UInt64)) .g)) (hb hby d5_7) rfl rfl ?_
    show Steps p.tables e below (T2.setTop (mkF m 8 #[.val (.double v), .second] [(.int (cmpValue (FP.dcmp (v &&& 0x7fffffffffffffff) (9218868437227405311 : UInt64)) .g))])) _
    refine XS.ifNo X2.here hx rfl (hb hby d5_8) rfl ((if0 _ _).trans (flt (own_fin_cmp hf : ¬ ((0 : Int32) < (cmpValue (FP.dcmp (v &&& 0x7fffffffffffffff) (9218868437227405311 : UInt64)) .g)))).2.2.1) ?_
    show Steps p.tables e below (T2.setTop (mkF m 11 #[.val (.double v), .second] [])) _
    refine XS.iconst X2.here hx rfl (hb hby d5_11) ?_
    show Steps p.tables e below (T2.setTop (mkF m 12 #[.val (.double v), .second] [(.int (1 : Int32))])) _
    refine XS.goto X2.here hx rfl (pc0 := 12) (pc' := 16) rfl (hb hby d5_12) (by decide) (by decide) ?_
    exact kt
  obtain ⟨fs, hr, hrun, hended, hW, hsame⟩ := X2.leave (v := some (.int (1 : Int32))) (fun h => by rw [Bd.returns] at h; cases h)
  refine ⟨_, _, pre0 _ ?_, hrun, hended, _, _, rfl, ?_, ⟨_, rfl⟩, hW, hsame.mono (by decide) (by decide)⟩
  · show Steps p.tables e below (s₁.setTop (mkF m 0 #[.val (.double v), .second] [])) _
    refine sg1 _ ?_
    refine st2 _ ?_
    refine sg3 _ ?_
    show Steps p.tables e below (T2.setTop (mkF m 16 #[.val (.double v), .second] [(.int (1 : Int32))])) _
    exact retN X2 hx (t := .boolean) Bd.returns (by simp) (hb hby d5_16) hr
  · show Q_rm5 Z v h0 n0 _ T2.heap _
    rw [e2]
    exact ⟨rfl, N0, rfl⟩
theorem d4_0 : decode prog_15_method_2_code 0 = .ok (.dload_n 1, 1) := by decide +kernel
theorem d4_1 : decode prog_15_method_2_code 1 = .ok (.invokestatic 7, 3) := by decide +kernel
theorem pd_4 : parseMethodDescriptor "(D)Z" = some ⟨[.double], some .boolean⟩ := by decide +kernel
theorem d4_4 : decode prog_15_method_2_code 4 = .ok (.ifCond .eq 9, 3) := by decide +kernel
theorem d4_7 : decode prog_15_method_2_code 7 = .ok (.dload_n 1, 1) := by decide +kernel
theorem d4_8 : decode prog_15_method_2_code 8 = .ok (.dconst 0, 1) := by decide +kernel
theorem d4_9 : decode prog_15_method_2_code 9 = .ok (.dcmp .g, 1) := by decide +kernel
theorem d4_10 : decode prog_15_method_2_code 10 = .ok (.ifCond .ge 18, 3) := by decide +kernel
theorem d4_28 : decode prog_15_method_2_code 28 = .ok (.return_, 1) := by decide +kernel
theorem pn_4 : plainName "com/example/headroom/headroom/Figures" = true := by first | (simp [plainName, overriddenIn]; done) | decide +kernel
theorem ef_rm4 (m : MethodId) (x0 : Addr) (x1 : UInt64) : entryFrame m #[(.ref x0), (.double x1)] 3 = mkF m 0 #[.val (.ref x0), .val (.double x1), .second] [] := by first | (simp [entryFrame, mkF, argsToLocals, Value.category]; done) | rfl
def Q_rm4 (Z : State) (sa : Addr) (v : UInt64) (h0 : Heap) (n0 : Nat) (rv : Option Value) (h : Heap) (L : List Loc) : Prop := rv = none ∧ Fr n0 L ∧ h = h0
set_option maxRecDepth 65536 in
set_option maxHeartbeats 40000000 in
theorem rm4 (l : Launch) (Z : State) (a0 : Array Value) (hw : ∀ d ∈ tables_1, d.before a0 Z = true) (ws : List Jvm.Cond) (sa : Addr) (v : UInt64) (h0 : Heap) (n0 : Nat) (Z0 : n0 ≤ h0.size) (hf : Jvm.Free.Fl.Fin64 v) (hge : ¬ ((cmpValue (FP.dcmp v (0 : UInt64)) .g) < (0 : Int32))) :
    MetFree l (⟨"com/example/headroom/headroom/Figures", "requireNonNegative", "(Ljava/lang/String;D)V"⟩ : MethodName) (head1 (Jvm.Cond.code (⟨"com/example/headroom/headroom/Figures", "requireNonNegative", "(Ljava/lang/String;D)V"⟩ : MethodName) prog_15_method_2_code 3 none :: ws) ({ frames := 2, cells := 0, slots := 0, locals := 26 } : Room)) (fun av U => av = #[(.ref sa), (.double v)] ∧ Z.Warmed39 U.vm ∧ U.heap = h0) (fun _ _ _ _ _ => True) (fun _ U o U' => ∃ rv L, o = .returned rv ∧ Q_rm4 Z sa v h0 n0 rv U'.heap L ∧ FrameEnd U o U' L ({ frames := 2, cells := 0, slots := 0, locals := 26 } : Room).cells ({ frames := 2, cells := 0, slots := 0, locals := 26 } : Room).slots) := by
  refine MetFree.of_bodySF (plainFor_of_name pn_4) hisR ?_
  intro p e s m args below meth c s₁ Bd hml0 hP hK
  obtain ⟨rfl, hZ, hh⟩ := hP
  have hx := Bd.exec
  have hby := Bd.bytes
  have hml : c.maxLocals = 3 := hml0
  have hown : s.vm.findClass "com/example/headroom/headroom/Figures" = some m.cls := findClass_of_methodNamed Bd.named
  have hnm := (name_of_methodNamed Bd.named Bd.method).1
  have X0 : Stand p l e ({ frames := 2, cells := 0, slots := 0, locals := 26 } : Room) s m #[(.ref sa), (.double v)] below meth c s₁ [] 0 0 := Stand.of_body Bd
  have e0 : s₁.heap = h0 := by rw [← hh, Bd.state]; rfl
  have N0 := Fr.nil n0
  have pre0 : ∀ t, Steps p.tables e below (s₁.setTop (mkF m 0 #[.val (.ref sa), .val (.double v), .second] [])) t → Steps p.tables e below (s₁.setTop (entryFrame m #[(.ref sa), (.double v)] 3)) t := fun t k => castTop (ef_rm4 m sa v) k
  have sg1 : ∀ target, Steps p.tables e below (s₁.setTop (mkF m 1 #[.val (.ref sa), .val (.double v), .second] [(.double v)])) target → Steps p.tables e below (s₁.setTop (mkF m 0 #[.val (.ref sa), .val (.double v), .second] [])) target := by
    intro target kt
    show Steps p.tables e below (s₁.setTop (mkF m 0 #[.val (.ref sa), .val (.double v), .second] [])) _
    refine XS.dloadN X0.here hx rfl (hb hby d4_0) rfl ?_
    exact kt
  obtain ⟨_, _, ⟨T2, L2, k2, n2⟩, -, X2, ⟨Lc2, hQ2, l2, y2, z2⟩, st2⟩ := Jvm.LawKit.callS X0 hx (y := (⟨"java/lang/Double", "isFinite", "(D)Z"⟩ : MethodName)) hown (mvT hZ (hw _ (List.mem_of_getElem? (i := 26) rfl))) (mvT hZ (hw _ (List.mem_of_getElem? (i := 27) rfl))) (mvT hZ (hw _ (List.mem_of_getElem? (i := 28) rfl))) (mvT hZ (hw _ (List.mem_of_getElem? (i := 29) rfl))) (by decide) (backOf (W := 0) (rm5 l Z a0 hw [] v h0 n0 Z0 hf) hZ (hw _ (List.mem_of_getElem? (i := 29) rfl)) (hw _ (List.mem_of_getElem? (i := 28) rfl)) (by decide) (by decide)) (g := (mkF m 1 #[.val (.ref sa), .val (.double v), .second] [(.double v)])) rfl (by rw [hml]; rfl) (argsL := [(.double v)]) (rest := []) (lenOf pd_4 rfl) rfl (by show 2 * 0 + _ ≤ _; exact Nat.le_of_eq rfl) (hb hby d4_1) (fun _ _ => ⟨rfl, e0, (by decide : 0 + 0 ≤ _), (by decide : 0 + 0 ≤ _)⟩)
  dsimp only [Pt.U, Pt.locs, Pt.cells, Pt.slots] at X2 l2 y2 z2 st2 hQ2
  subst l2 y2 z2
  obtain ⟨rfl, N2q, c2_0⟩ := hQ2
  have N2 := Fr.app N0 N2q
  have sg3 : ∀ target, Steps p.tables e below (T2.setTop (mkF m 28 #[.val (.ref sa), .val (.double v), .second] [])) target → Steps p.tables e below (T2.setTop (mkF m 4 #[.val (.ref sa), .val (.double v), .second] [(.int (1 : Int32))])) target := by
    intro target kt
    show Steps p.tables e below (T2.setTop (mkF m 4 #[.val (.ref sa), .val (.double v), .second] [(.int (1 : Int32))])) _
    refine XS.ifNo X2.here hx rfl (hb hby d4_4) rfl ((if0 _ _).trans (feq (by decide : ¬ ((1 : Int32) = (0 : Int32)))).1) ?_
    show Steps p.tables e below (T2.setTop (mkF m 7 #[.val (.ref sa), .val (.double v), .second] [])) _
    refine XS.dloadN X2.here hx rfl (hb hby d4_7) rfl ?_
    show Steps p.tables e below (T2.setTop (mkF m 8 #[.val (.ref sa), .val (.double v), .second] [(.double v)])) _
    refine XS.dconst0 X2.here hx rfl (v := (0 : UInt64)) (hb hby d4_8) rfl ?_
    show Steps p.tables e below (T2.setTop (mkF m 9 #[.val (.ref sa), .val (.double v), .second] [(.double (0 : UInt64)), (.double v)])) _
    refine XS.dcmpS X2.here hx rfl (v := (cmpValue (FP.dcmp v (0 : UInt64)) .g)) (hb hby d4_9) rfl rfl ?_
    show Steps p.tables e below (T2.setTop (mkF m 10 #[.val (.ref sa), .val (.double v), .second] [(.int (cmpValue (FP.dcmp v (0 : UInt64)) .g))])) _
    refine XS.ifYes X2.here hx rfl (pc0 := 10) (pc' := 28) rfl (hb hby d4_10) rfl ((if0 _ _).trans (flt (hge : ¬ ((cmpValue (FP.dcmp v (0 : UInt64)) .g) < (0 : Int32)))).2.1) (by decide) (by decide) ?_
    exact kt
  obtain ⟨fs, hr, hrun, hended, hW, hsame⟩ := X2.leave (v := none) (fun _ => rfl)
  refine ⟨_, _, pre0 _ ?_, hrun, hended, _, _, rfl, ?_, ⟨_, rfl⟩, hW, hsame.mono (by decide) (by decide)⟩
  · show Steps p.tables e below (s₁.setTop (mkF m 0 #[.val (.ref sa), .val (.double v), .second] [])) _
    refine sg1 _ ?_
    refine st2 _ ?_
    refine sg3 _ ?_
    show Steps p.tables e below (T2.setTop (mkF m 28 #[.val (.ref sa), .val (.double v), .second] [])) _
    exact X2.returnOut hx Bd.returns (hb hby d4_28) hr
  · show Q_rm4 Z sa v h0 n0 _ T2.heap _
    rw [c2_0]
    exact ⟨rfl, N2, rfl⟩
theorem d1_0 : decode prog_20_method_1_code 0 = .ok (.aload_n 0, 1) := by decide +kernel
theorem d1_1 : decode prog_20_method_1_code 1 = .ok (.invokespecial 1, 3) := by decide +kernel
theorem pd_2 : parseMethodDescriptor "()V" = some ⟨[], none⟩ := by decide +kernel
theorem d1_4 : decode prog_20_method_1_code 4 = .ok (.ldc 7, 2) := by decide +kernel
theorem d1_6 : decode prog_20_method_1_code 6 = .ok (.dload_n 1, 1) := by decide +kernel
theorem d1_7 : decode prog_20_method_1_code 7 = .ok (.invokestatic 9, 3) := by decide +kernel
theorem pd_6 : parseMethodDescriptor "(Ljava/lang/String;D)V" = some ⟨[(.object "java/lang/String"), .double], none⟩ := by decide +kernel
theorem d1_10 : decode prog_20_method_1_code 10 = .ok (.ldc 15, 2) := by decide +kernel
theorem d1_12 : decode prog_20_method_1_code 12 = .ok (.dload_n 3, 1) := by decide +kernel
theorem d1_13 : decode prog_20_method_1_code 13 = .ok (.invokestatic 9, 3) := by decide +kernel
theorem d1_16 : decode prog_20_method_1_code 16 = .ok (.aload_n 0, 1) := by decide +kernel
theorem d1_17 : decode prog_20_method_1_code 17 = .ok (.dload_n 1, 1) := by decide +kernel
theorem d1_18 : decode prog_20_method_1_code 18 = .ok (.putfield 17, 3) := by decide +kernel
theorem d1_21 : decode prog_20_method_1_code 21 = .ok (.aload_n 0, 1) := by decide +kernel
theorem d1_22 : decode prog_20_method_1_code 22 = .ok (.dload_n 3, 1) := by decide +kernel
theorem d1_23 : decode prog_20_method_1_code 23 = .ok (.putfield 22, 3) := by decide +kernel
theorem d1_26 : decode prog_20_method_1_code 26 = .ok (.return_, 1) := by decide +kernel
theorem pn_1 : plainName "com/example/headroom/headroom/ResourceUsage" = true := by first | (simp [plainName, overriddenIn]; done) | decide +kernel
theorem ef_rm1 (m : MethodId) (x0 : Addr) (x1 : UInt64) (x2 : UInt64) : entryFrame m #[(.ref x0), (.double x1), (.double x2)] 5 = mkF m 0 #[.val (.ref x0), .val (.double x1), .second, .val (.double x2), .second] [] := by first | (simp [entryFrame, mkF, argsToLocals, Value.category]; done) | rfl
def Q_rm1 (Z : State) (a : Addr) (u : UInt64) (v : UInt64) (h0 : Heap) (n0 : Nat) (rv : Option Value) (h : Heap) (L : List Loc) : Prop := rv = none ∧ Fr n0 L ∧ Keep h0 h [a] ∧ Exa Z h a "com/example/headroom/headroom/ResourceUsage" ∧ Fld Z h a "com/example/headroom/headroom/ResourceUsage" "usage" "D" (.double u) ∧ Fld Z h a "com/example/headroom/headroom/ResourceUsage" "limit" "D" (.double v)
set_option maxRecDepth 65536 in
set_option maxHeartbeats 40000000 in
theorem rm1 (l : Launch) (Z : State) (a0 : Array Value) (hw : ∀ d ∈ tables_1, d.before a0 Z = true) (ws : List Jvm.Cond) (a : Addr) (u : UInt64) (v : UInt64) (h0 : Heap) (n0 : Nat) (Z0 : n0 ≤ h0.size) (E_a : Exa Z h0 a "com/example/headroom/headroom/ResourceUsage") (F1 : Fld Z h0 a "com/example/headroom/headroom/ResourceUsage" "usage" "D" (.double (0 : UInt64))) (F2 : Fld Z h0 a "com/example/headroom/headroom/ResourceUsage" "limit" "D" (.double (0 : UInt64))) (g_a : n0 ≤ a) (hu : Jvm.Free.Fl.Fin64 u) (hu2 : ¬ ((cmpValue (FP.dcmp u (0 : UInt64)) .g) < (0 : Int32))) (hv : Jvm.Free.Fl.Fin64 v) (hv2 : ¬ ((cmpValue (FP.dcmp v (0 : UInt64)) .g) < (0 : Int32))) :
    MetFree l (⟨"com/example/headroom/headroom/ResourceUsage", "<init>", "(DD)V"⟩ : MethodName) (head1 (Jvm.Cond.code (⟨"com/example/headroom/headroom/ResourceUsage", "<init>", "(DD)V"⟩ : MethodName) prog_20_method_1_code 5 none :: ws) ({ frames := 3, cells := 4, slots := 48, locals := 40 } : Room)) (fun av U => av = #[(.ref a), (.double u), (.double v)] ∧ Z.Warmed39 U.vm ∧ U.heap = h0) (fun _ _ _ _ _ => True) (fun _ U o U' => ∃ rv L, o = .returned rv ∧ Q_rm1 Z a u v h0 n0 rv U'.heap L ∧ ReturnedEndW U o U' L ({ frames := 3, cells := 4, slots := 48, locals := 40 } : Room).cells ({ frames := 3, cells := 4, slots := 48, locals := 40 } : Room).slots) := by
  refine MetFree.of_bodySF (plainFor_of_name pn_1) hisR ?_
  intro p e s m args below meth c s₁ Bd hml0 hP hK
  obtain ⟨rfl, hZ, hh⟩ := hP
  have hx := Bd.exec
  have hby := Bd.bytes
  have hml : c.maxLocals = 5 := hml0
  have hown : s.vm.findClass "com/example/headroom/headroom/ResourceUsage" = some m.cls := findClass_of_methodNamed Bd.named
  have hnm := (name_of_methodNamed Bd.named Bd.method).1
  have X0 : Stand p l e ({ frames := 3, cells := 4, slots := 48, locals := 40 } : Room) s m #[(.ref a), (.double u), (.double v)] below meth c s₁ [] 0 0 := Stand.of_body Bd
  have e0 : s₁.heap = h0 := by rw [← hh, Bd.state]; rfl
  have N0 := Fr.nil n0
  have pre0 : ∀ t, Steps p.tables e below (s₁.setTop (mkF m 0 #[.val (.ref a), .val (.double u), .second, .val (.double v), .second] [])) t → Steps p.tables e below (s₁.setTop (entryFrame m #[(.ref a), (.double u), (.double v)] 5)) t := fun t k => castTop (ef_rm1 m a u v) k
  have hS0 : s.Since s.vm h0.size := State.WarmedH.since (State.WarmedH.refl s) _
  have sg1 : ∀ target, Steps p.tables e below (s₁.setTop (mkF m 1 #[.val (.ref a), .val (.double u), .second, .val (.double v), .second] [(.ref a)])) target → Steps p.tables e below (s₁.setTop (mkF m 0 #[.val (.ref a), .val (.double u), .second, .val (.double v), .second] [])) target := by
    intro target kt
    show Steps p.tables e below (s₁.setTop (mkF m 0 #[.val (.ref a), .val (.double u), .second, .val (.double v), .second] [])) _
    refine XS.aloadN X0.here hx rfl (hb hby d1_0) rfl rfl ?_
    exact kt
  obtain ⟨_, _, ⟨T2, L2, k2, n2⟩, -, X2, ⟨Lc2, hQ2, l2, y2, z2⟩, st2⟩ := X0.specialBack hx (y := (⟨"java/lang/Record", "<init>", "()V"⟩ : MethodName)) rfl hown (mvT hZ (hw _ (List.mem_of_getElem? (i := 6) rfl))) (mvT hZ (hw _ (List.mem_of_getElem? (i := 7) rfl))) (mvT hZ (hw _ (List.mem_of_getElem? (i := 10) rfl))) (by decide) (backOf (W := 0) (rm2 l Z a0 hw [] a h0 n0 Z0 ) hZ (hw _ (List.mem_of_getElem? (i := 10) rfl)) (hw _ (List.mem_of_getElem? (i := 9) rfl)) (by decide) (by decide)) (g := (mkF m 1 #[.val (.ref a), .val (.double u), .second, .val (.double v), .second] [(.ref a)])) rfl (by rw [hml]; rfl) (Steps.refl _) (a := a) (argsL := []) (rest := []) (lenOf pd_2 rfl) rfl (by show 2 * 0 + _ ≤ _; exact Nat.le_of_eq rfl) (hb hby d1_1) (fun _ _ => ⟨rfl, e0, (by decide : 0 + 0 ≤ _), (by decide : 0 + 0 ≤ _)⟩)
  dsimp only [Pt.U, Pt.locs, Pt.cells, Pt.slots] at X2 l2 y2 z2 st2 hQ2
  subst l2 y2 z2
  obtain ⟨rfl, N2q, c2_0⟩ := hQ2
  have N2 := Fr.app N0 N2q
  obtain ⟨b3, T3, h3, k3, X3, e3, E3, hS3, hk3, hZ3, hown3, st3⟩ := ldcS (s := s) (vm0 := s.vm) X2 hx hZ (own := "com/example/headroom/headroom/ResourceUsage") hown (hw _ (List.mem_of_getElem? (i := 14) rfl)) (own_wS hw) c2_0 hS0 (Nat.le_refl h0.size) (g := (mkF m 4 #[.val (.ref a), .val (.double u), .second, .val (.double v), .second] [])) rfl (hb hby d1_4) (n := 20) (by decide) (by decide) (by decide) (by decide)
  have Zs3 : n0 ≤ h3.size := Nat.le_trans Z0 E3.1
  have K3 : Keep h0 h3 [a] := (Keep.refl h0 [a]).ext E3
  have f4 : Exa Z h3 a "com/example/headroom/headroom/ResourceUsage" := E_a.ext E3
  have f5 : Fld Z h3 a "com/example/headroom/headroom/ResourceUsage" "usage" "D" (.double (0 : UInt64)) := F1.ext E3
  have f6 : Fld Z h3 a "com/example/headroom/headroom/ResourceUsage" "limit" "D" (.double (0 : UInt64)) := F2.ext E3
  have sg7 : ∀ target, Steps p.tables e below (T3.setTop (mkF m 7 #[.val (.ref a), .val (.double u), .second, .val (.double v), .second] [(.double u), (.ref b3)])) target → Steps p.tables e below (T3.setTop (mkF m 6 #[.val (.ref a), .val (.double u), .second, .val (.double v), .second] [(.ref b3)])) target := by
    intro target kt
    show Steps p.tables e below (T3.setTop (mkF m 6 #[.val (.ref a), .val (.double u), .second, .val (.double v), .second] [(.ref b3)])) _
    refine XS.dloadN X3.here hx rfl (hb hby d1_6) rfl ?_
    exact kt
  obtain ⟨_, _, ⟨T8, L8, k8, n8⟩, -, X8, ⟨Lc8, hQ8, l8, y8, z8⟩, st8⟩ := Jvm.LawKit.callS X3 hx (y := (⟨"com/example/headroom/headroom/Figures", "requireNonNegative", "(Ljava/lang/String;D)V"⟩ : MethodName)) hown3 (mvT hZ3 (hw _ (List.mem_of_getElem? (i := 22) rfl))) (mvT hZ3 (hw _ (List.mem_of_getElem? (i := 23) rfl))) (mvT hZ3 (hw _ (List.mem_of_getElem? (i := 24) rfl))) (mvT hZ3 (hw _ (List.mem_of_getElem? (i := 25) rfl))) (by decide) (backOf (W := 0) (rm4 l Z a0 hw [] b3 u h3 n0 Zs3 hu hu2) hZ3 (hw _ (List.mem_of_getElem? (i := 25) rfl)) (hw _ (List.mem_of_getElem? (i := 24) rfl)) (by decide) (by decide)) (g := (mkF m 7 #[.val (.ref a), .val (.double u), .second, .val (.double v), .second] [(.double u), (.ref b3)])) rfl (by rw [hml]; rfl) (argsL := [(.ref b3), (.double u)]) (rest := []) (lenOf pd_6 rfl) rfl (by show 2 * 0 + _ ≤ _; exact Nat.le_of_eq rfl) (hb hby d1_7) (fun _ _ => ⟨rfl, e3, (by decide : 2 + 0 ≤ _), (by decide : 24 + 0 ≤ _)⟩)
  dsimp only [Pt.U, Pt.locs, Pt.cells, Pt.slots] at X8 l8 y8 z8 st8 hQ8
  subst l8 y8 z8
  obtain ⟨rfl, N8q, c8_0⟩ := hQ8
  have N8 := Fr.app N2 N8q
  obtain ⟨b9, T9, h9, k9, X9, e9, E9, hS9, hk9, hZ9, hown9, st9⟩ := ldcS (s := s) (vm0 := T3.vm) X8 hx hZ3 (own := "com/example/headroom/headroom/ResourceUsage") hown3 (hw _ (List.mem_of_getElem? (i := 35) rfl)) (own_wS hw) c8_0 hS3 hk3 (g := (mkF m 10 #[.val (.ref a), .val (.double u), .second, .val (.double v), .second] [])) rfl (hb hby d1_10) (n := 20) (by decide) (by decide) (by decide) (by decide)
  have Zs9 : n0 ≤ h9.size := Nat.le_trans Zs3 E9.1
  have K9 : Keep h0 h9 [a] := K3.ext E9
  have f10 : Exa Z h9 a "com/example/headroom/headroom/ResourceUsage" := f4.ext E9
  have f11 : Fld Z h9 a "com/example/headroom/headroom/ResourceUsage" "usage" "D" (.double (0 : UInt64)) := f5.ext E9
  have f12 : Fld Z h9 a "com/example/headroom/headroom/ResourceUsage" "limit" "D" (.double (0 : UInt64)) := f6.ext E9
  have sg13 : ∀ target, Steps p.tables e below (T9.setTop (mkF m 13 #[.val (.ref a), .val (.double u), .second, .val (.double v), .second] [(.double v), (.ref b9)])) target → Steps p.tables e below (T9.setTop (mkF m 12 #[.val (.ref a), .val (.double u), .second, .val (.double v), .second] [(.ref b9)])) target := by
    intro target kt
    show Steps p.tables e below (T9.setTop (mkF m 12 #[.val (.ref a), .val (.double u), .second, .val (.double v), .second] [(.ref b9)])) _
    refine XS.dloadN X9.here hx rfl (hb hby d1_12) rfl ?_
    exact kt
  obtain ⟨_, _, ⟨T14, L14, k14, n14⟩, -, X14, ⟨Lc14, hQ14, l14, y14, z14⟩, st14⟩ := Jvm.LawKit.callS X9 hx (y := (⟨"com/example/headroom/headroom/Figures", "requireNonNegative", "(Ljava/lang/String;D)V"⟩ : MethodName)) hown9 (mvT hZ9 (hw _ (List.mem_of_getElem? (i := 22) rfl))) (mvT hZ9 (hw _ (List.mem_of_getElem? (i := 23) rfl))) (mvT hZ9 (hw _ (List.mem_of_getElem? (i := 24) rfl))) (mvT hZ9 (hw _ (List.mem_of_getElem? (i := 25) rfl))) (by decide) (backOf (W := 0) (rm4 l Z a0 hw [] b9 v h9 n0 Zs9 hv hv2) hZ9 (hw _ (List.mem_of_getElem? (i := 25) rfl)) (hw _ (List.mem_of_getElem? (i := 24) rfl)) (by decide) (by decide)) (g := (mkF m 13 #[.val (.ref a), .val (.double u), .second, .val (.double v), .second] [(.double v), (.ref b9)])) rfl (by rw [hml]; rfl) (argsL := [(.ref b9), (.double v)]) (rest := []) (lenOf pd_6 rfl) rfl (by show 2 * 0 + _ ≤ _; exact Nat.le_of_eq rfl) (hb hby d1_13) (fun _ _ => ⟨rfl, e9, (by decide : 4 + 0 ≤ _), (by decide : 48 + 0 ≤ _)⟩)
  dsimp only [Pt.U, Pt.locs, Pt.cells, Pt.slots] at X14 l14 y14 z14 st14 hQ14
  subst l14 y14 z14
  obtain ⟨rfl, N14q, c14_0⟩ := hQ14
  have N14 := Fr.app N8 N14q
  have sg15 : ∀ target, Steps p.tables e below (T14.setTop (mkF m 18 #[.val (.ref a), .val (.double u), .second, .val (.double v), .second] [(.double u), (.ref a)])) target → Steps p.tables e below (T14.setTop (mkF m 16 #[.val (.ref a), .val (.double u), .second, .val (.double v), .second] [])) target := by
    intro target kt
    show Steps p.tables e below (T14.setTop (mkF m 16 #[.val (.ref a), .val (.double u), .second, .val (.double v), .second] [])) _
    refine XS.aloadN X14.here hx rfl (hb hby d1_16) rfl rfl ?_
    show Steps p.tables e below (T14.setTop (mkF m 17 #[.val (.ref a), .val (.double u), .second, .val (.double v), .second] [(.ref a)])) _
    refine XS.dloadN X14.here hx rfl (hb hby d1_17) rfl ?_
    exact kt
  obtain ⟨T16, h16, X16, e16, W16, st16⟩ := putF X14 hx hZ9 hown9 (host := "") (Or.inl (hw _ (List.mem_of_getElem? (i := 36) rfl))) Via.refl c14_0 f11 f10 (Or.inr ⟨(hw _ (List.mem_of_getElem? (i := 37) rfl)), rfl, hnm⟩) (hw _ (List.mem_of_getElem? (i := 1) rfl)) (ty := .double) (by decide) rfl rfl (g := (mkF m 18 #[.val (.ref a), .val (.double u), .second, .val (.double v), .second] [(.double u), (.ref a)])) rfl rfl (hb hby d1_18)
  have N16 := Fr.snoc X16 N14 g_a
  have Zs16 : n0 ≤ h16.size := by rw [W16.size]; exact Zs9
  have K16 : Keep h0 h16 [a] := K9.wr W16 (Or.inl (List.mem_of_getElem? (i := 0) rfl))
  have f17 : Exa Z h16 a "com/example/headroom/headroom/ResourceUsage" := f10.wr W16
  have f18 : Fld Z h16 a "com/example/headroom/headroom/ResourceUsage" "limit" "D" (.double (0 : UInt64)) := f12.other W16 (Or.inr (slot_ne (Or.inr (hw _ (List.mem_of_getElem? (i := 39) rfl))) (Or.inr (hw _ (List.mem_of_getElem? (i := 37) rfl))) (by decide) (t := .double) (t' := .double) (by decide) (by decide)))
  have f19 : Fld Z h16 a "com/example/headroom/headroom/ResourceUsage" "usage" "D" (.double u) := f11.same W16
  have sg20 : ∀ target, Steps p.tables e below (T16.setTop (mkF m 23 #[.val (.ref a), .val (.double u), .second, .val (.double v), .second] [(.double v), (.ref a)])) target → Steps p.tables e below (T16.setTop (mkF m 21 #[.val (.ref a), .val (.double u), .second, .val (.double v), .second] [])) target := by
    intro target kt
    show Steps p.tables e below (T16.setTop (mkF m 21 #[.val (.ref a), .val (.double u), .second, .val (.double v), .second] [])) _
    refine XS.aloadN X16.here hx rfl (hb hby d1_21) rfl rfl ?_
    show Steps p.tables e below (T16.setTop (mkF m 22 #[.val (.ref a), .val (.double u), .second, .val (.double v), .second] [(.ref a)])) _
    refine XS.dloadN X16.here hx rfl (hb hby d1_22) rfl ?_
    exact kt
  obtain ⟨T21, h21, X21, e21, W21, st21⟩ := putF X16 hx hZ9 hown9 (host := "") (Or.inl (hw _ (List.mem_of_getElem? (i := 38) rfl))) Via.refl e16 f18 f17 (Or.inr ⟨(hw _ (List.mem_of_getElem? (i := 39) rfl)), rfl, hnm⟩) (hw _ (List.mem_of_getElem? (i := 1) rfl)) (ty := .double) (by decide) rfl rfl (g := (mkF m 23 #[.val (.ref a), .val (.double u), .second, .val (.double v), .second] [(.double v), (.ref a)])) rfl rfl (hb hby d1_23)
  have N21 := Fr.snoc X21 N16 g_a
  have Zs21 : n0 ≤ h21.size := by rw [W21.size]; exact Zs16
  have K21 : Keep h0 h21 [a] := K16.wr W21 (Or.inl (List.mem_of_getElem? (i := 0) rfl))
  have f22 : Exa Z h21 a "com/example/headroom/headroom/ResourceUsage" := f17.wr W21
  have f23 : Fld Z h21 a "com/example/headroom/headroom/ResourceUsage" "usage" "D" (.double u) := f19.other W21 (Or.inr (slot_ne (Or.inr (hw _ (List.mem_of_getElem? (i := 37) rfl))) (Or.inr (hw _ (List.mem_of_getElem? (i := 39) rfl))) (by decide) (t := .double) (t' := .double) (by decide) (by decide)))
  have f24 : Fld Z h21 a "com/example/headroom/headroom/ResourceUsage" "limit" "D" (.double v) := f18.same W21
  obtain ⟨fs, hr, hrun, hended, hWE⟩ := Stand.leaveW (s := s) (vm₁ := T9.vm) X21 hS9 (by rw [e21]; exact (Nat.le_trans (Nat.le_trans hk9 (Keep.of_wr W16).1) (Keep.of_wr W21).1)) (v := none) (fun _ => rfl)
  refine ⟨_, _, pre0 _ ?_, hrun, hended, _, _, rfl, ?_, hWE.1, hWE.2.1, hWE.2.2.1, hWE.2.2.2.mono (by decide) (by decide)⟩
  · show Steps p.tables e below (s₁.setTop (mkF m 0 #[.val (.ref a), .val (.double u), .second, .val (.double v), .second] [])) _
    refine sg1 _ ?_
    refine st2.trans ?_
    refine st3 _ ?_
    refine sg7 _ ?_
    refine st8 _ ?_
    refine st9 _ ?_
    refine sg13 _ ?_
    refine st14 _ ?_
    refine sg15 _ ?_
    refine st16 _ ?_
    refine sg20 _ ?_
    refine st21 _ ?_
    show Steps p.tables e below (T21.setTop (mkF m 26 #[.val (.ref a), .val (.double u), .second, .val (.double v), .second] [])) _
    exact X21.returnOut hx Bd.returns (hb hby d1_26) hr
  · show Q_rm1 Z a u v h0 n0 _ T21.heap _
    rw [e21]
    exact ⟨rfl, N21, K21, f22, f23, f24⟩
theorem d7_0 : decode prog_20_method_2_code 0 = .ok (.aload_n 0, 1) := by decide +kernel
theorem d7_1 : decode prog_20_method_2_code 1 = .ok (.getfield 22, 3) := by decide +kernel
theorem d7_4 : decode prog_20_method_2_code 4 = .ok (.dconst 0, 1) := by decide +kernel
theorem d7_5 : decode prog_20_method_2_code 5 = .ok (.dcmp .l, 1) := by decide +kernel
theorem d7_6 : decode prog_20_method_2_code 6 = .ok (.ifCond .ne 5, 3) := by decide +kernel
theorem d7_9 : decode prog_20_method_2_code 9 = .ok (.dconst 0, 1) := by decide +kernel
theorem d7_10 : decode prog_20_method_2_code 10 = .ok (.dreturn, 1) := by decide +kernel
theorem pn_7 : plainName "com/example/headroom/headroom/ResourceUsage" = true := by first | (simp [plainName, overriddenIn]; done) | decide +kernel
theorem ef_rm7a (m : MethodId) (x0 : Addr) : entryFrame m #[(.ref x0)] 1 = mkF m 0 #[.val (.ref x0)] [] := by first | (simp [entryFrame, mkF, argsToLocals, Value.category]; done) | rfl
def Q_rm7a (Z : State) (a : Addr) (v : UInt64) (h0 : Heap) (n0 : Nat) (rv : Option Value) (h : Heap) (L : List Loc) : Prop := rv = some (.double (0 : UInt64)) ∧ Fr n0 L ∧ h = h0
set_option maxRecDepth 65536 in
set_option maxHeartbeats 40000000 in
theorem rm7a (l : Launch) (Z : State) (a0 : Array Value) (hw : ∀ d ∈ tables_1, d.before a0 Z = true) (ws : List Jvm.Cond) (a : Addr) (v : UInt64) (h0 : Heap) (n0 : Nat) (Z0 : n0 ≤ h0.size) (F2 : Fld Z h0 a "com/example/headroom/headroom/ResourceUsage" "limit" "D" (.double v)) (hz : cmpValue (FP.dcmp v (0 : UInt64)) .l = 0) :
    MetFree l (⟨"com/example/headroom/headroom/ResourceUsage", "fraction", "()D"⟩ : MethodName) (head1 (Jvm.Cond.code (⟨"com/example/headroom/headroom/ResourceUsage", "fraction", "()D"⟩ : MethodName) prog_20_method_2_code 1 (some .double) :: ws) ({ frames := 0, cells := 0, slots := 0, locals := 0 } : Room)) (fun av U => av = #[(.ref a)] ∧ Z.Warmed39 U.vm ∧ U.heap = h0) (fun _ _ _ _ _ => True) (fun _ U o U' => ∃ rv L, o = .returned rv ∧ Q_rm7a Z a v h0 n0 rv U'.heap L ∧ FrameEnd U o U' L ({ frames := 0, cells := 0, slots := 0, locals := 0 } : Room).cells ({ frames := 0, cells := 0, slots := 0, locals := 0 } : Room).slots) := by
  refine MetFree.of_bodySF (plainFor_of_name pn_7) hisR ?_
  intro p e s m args below meth c s₁ Bd hml0 hP hK
  obtain ⟨rfl, hZ, hh⟩ := hP
  have hx := Bd.exec
  have hby := Bd.bytes
  have hml : c.maxLocals = 1 := hml0
  have hown : s.vm.findClass "com/example/headroom/headroom/ResourceUsage" = some m.cls := findClass_of_methodNamed Bd.named
  have hnm := (name_of_methodNamed Bd.named Bd.method).1
  have X0 : Stand p l e ({ frames := 0, cells := 0, slots := 0, locals := 0 } : Room) s m #[(.ref a)] below meth c s₁ [] 0 0 := Stand.of_body Bd
  have e0 : s₁.heap = h0 := by rw [← hh, Bd.state]; rfl
  have N0 := Fr.nil n0
  have pre0 : ∀ t, Steps p.tables e below (s₁.setTop (mkF m 0 #[.val (.ref a)] [])) t → Steps p.tables e below (s₁.setTop (entryFrame m #[(.ref a)] 1)) t := fun t k => castTop (ef_rm7a m a) k
  have sg1 : ∀ target, Steps p.tables e below (s₁.setTop (mkF m 1 #[.val (.ref a)] [(.ref a)])) target → Steps p.tables e below (s₁.setTop (mkF m 0 #[.val (.ref a)] [])) target := by
    intro target kt
    show Steps p.tables e below (s₁.setTop (mkF m 0 #[.val (.ref a)] [])) _
    refine XS.aloadN X0.here hx rfl (hb hby d7_0) rfl rfl ?_
    exact kt
  obtain ⟨T2, X2, e2, st2⟩ := getF X0 hx hZ hown (host := "") (Or.inl (hw _ (List.mem_of_getElem? (i := 38) rfl))) Via.refl e0 F2 (g := (mkF m 1 #[.val (.ref a)] [(.ref a)])) rfl rfl (hb hby d7_1)
  have sg3 : ∀ target, Steps p.tables e below (T2.setTop (mkF m 10 #[.val (.ref a)] [(.double (0 : UInt64))])) target → Steps p.tables e below (T2.setTop (mkF m 4 #[.val (.ref a)] [(.double v)])) target := by
    intro target kt
    show Steps p.tables e below (T2.setTop (mkF m 4 #[.val (.ref a)] [(.double v)])) _
    refine XS.dconst0 X2.here hx rfl (v := (0 : UInt64)) (hb hby d7_4) rfl ?_
    show Steps p.tables e below (T2.setTop (mkF m 5 #[.val (.ref a)] [(.double (0 : UInt64)), (.double v)])) _
    refine XS.dcmpS X2.here hx rfl (v := (0 : Int32)) (hb hby d7_5) rfl hz ?_
    show Steps p.tables e below (T2.setTop (mkF m 6 #[.val (.ref a)] [(.int (0 : Int32))])) _
    refine XS.ifNo X2.here hx rfl (hb hby d7_6) rfl ((if0 _ _).trans (teq (by decide : (0 : Int32) = (0 : Int32))).2) ?_
    show Steps p.tables e below (T2.setTop (mkF m 9 #[.val (.ref a)] [])) _
    refine XS.dconst0 X2.here hx rfl (v := (0 : UInt64)) (hb hby d7_9) rfl ?_
    exact kt
  obtain ⟨fs, hr, hrun, hended, hW, hsame⟩ := X2.leave (v := some (.double (0 : UInt64))) (fun h => by rw [Bd.returns] at h; cases h)
  refine ⟨_, _, pre0 _ ?_, hrun, hended, _, _, rfl, ?_, ⟨_, rfl⟩, hW, hsame.mono (by decide) (by decide)⟩
  · show Steps p.tables e below (s₁.setTop (mkF m 0 #[.val (.ref a)] [])) _
    refine sg1 _ ?_
    refine st2 _ ?_
    refine sg3 _ ?_
    show Steps p.tables e below (T2.setTop (mkF m 10 #[.val (.ref a)] [(.double (0 : UInt64))])) _
    exact retOut X2 hx Bd.returns rfl (Or.inr (Or.inr (Or.inl ⟨rfl, rfl, _, rfl⟩))) (hb hby d7_10) hr
  · show Q_rm7a Z a v h0 n0 _ T2.heap _
    rw [e2]
    exact ⟨rfl, N0, rfl⟩
theorem d7_11 : decode prog_20_method_2_code 11 = .ok (.aload_n 0, 1) := by decide +kernel
theorem d7_12 : decode prog_20_method_2_code 12 = .ok (.getfield 17, 3) := by decide +kernel
theorem d7_15 : decode prog_20_method_2_code 15 = .ok (.aload_n 0, 1) := by decide +kernel
theorem d7_16 : decode prog_20_method_2_code 16 = .ok (.getfield 22, 3) := by decide +kernel
theorem d7_19 : decode prog_20_method_2_code 19 = .ok (.ddiv, 1) := by decide +kernel
theorem d7_20 : decode prog_20_method_2_code 20 = .ok (.dreturn, 1) := by decide +kernel
theorem ef_rm7b (m : MethodId) (x0 : Addr) : entryFrame m #[(.ref x0)] 1 = mkF m 0 #[.val (.ref x0)] [] := by first | (simp [entryFrame, mkF, argsToLocals, Value.category]; done) | rfl
def Q_rm7b (Z : State) (a : Addr) (u : UInt64) (v : UInt64) (h0 : Heap) (n0 : Nat) (rv : Option Value) (h : Heap) (L : List Loc) : Prop := rv = some (.double (FP.ddiv u v)) ∧ Fr n0 L ∧ h = h0
set_option maxRecDepth 65536 in
set_option maxHeartbeats 40000000 in
theorem rm7b (l : Launch) (Z : State) (a0 : Array Value) (hw : ∀ d ∈ tables_1, d.before a0 Z = true) (ws : List Jvm.Cond) (a : Addr) (u : UInt64) (v : UInt64) (h0 : Heap) (n0 : Nat) (Z0 : n0 ≤ h0.size) (F1 : Fld Z h0 a "com/example/headroom/headroom/ResourceUsage" "usage" "D" (.double u)) (F2 : Fld Z h0 a "com/example/headroom/headroom/ResourceUsage" "limit" "D" (.double v)) (hz : ¬ ((cmpValue (FP.dcmp v (0 : UInt64)) .l) = (0 : Int32))) (nn : Jvm.Free.Fl.NoNaN64 (FP.ddiv u v)) :
    MetFree l (⟨"com/example/headroom/headroom/ResourceUsage", "fraction", "()D"⟩ : MethodName) (head1 (Jvm.Cond.code (⟨"com/example/headroom/headroom/ResourceUsage", "fraction", "()D"⟩ : MethodName) prog_20_method_2_code 1 (some .double) :: ws) ({ frames := 0, cells := 0, slots := 0, locals := 0 } : Room)) (fun av U => av = #[(.ref a)] ∧ Z.Warmed39 U.vm ∧ U.heap = h0) (fun _ _ _ _ _ => True) (fun _ U o U' => ∃ rv L, o = .returned rv ∧ Q_rm7b Z a u v h0 n0 rv U'.heap L ∧ FrameEnd U o U' L ({ frames := 0, cells := 0, slots := 0, locals := 0 } : Room).cells ({ frames := 0, cells := 0, slots := 0, locals := 0 } : Room).slots) := by
  refine MetFree.of_bodySF (plainFor_of_name pn_7) hisR ?_
  intro p e s m args below meth c s₁ Bd hml0 hP hK
  obtain ⟨rfl, hZ, hh⟩ := hP
  have hx := Bd.exec
  have hby := Bd.bytes
  have hml : c.maxLocals = 1 := hml0
  have hown : s.vm.findClass "com/example/headroom/headroom/ResourceUsage" = some m.cls := findClass_of_methodNamed Bd.named
  have hnm := (name_of_methodNamed Bd.named Bd.method).1
  have X0 : Stand p l e ({ frames := 0, cells := 0, slots := 0, locals := 0 } : Room) s m #[(.ref a)] below meth c s₁ [] 0 0 := Stand.of_body Bd
  have e0 : s₁.heap = h0 := by rw [← hh, Bd.state]; rfl
  have N0 := Fr.nil n0
  have pre0 : ∀ t, Steps p.tables e below (s₁.setTop (mkF m 0 #[.val (.ref a)] [])) t → Steps p.tables e below (s₁.setTop (entryFrame m #[(.ref a)] 1)) t := fun t k => castTop (ef_rm7b m a) k
  have sg1 : ∀ target, Steps p.tables e below (s₁.setTop (mkF m 1 #[.val (.ref a)] [(.ref a)])) target → Steps p.tables e below (s₁.setTop (mkF m 0 #[.val (.ref a)] [])) target := by
    intro target kt
    show Steps p.tables e below (s₁.setTop (mkF m 0 #[.val (.ref a)] [])) _
    refine XS.aloadN X0.here hx rfl (hb hby d7_0) rfl rfl ?_
    exact kt
  obtain ⟨T2, X2, e2, st2⟩ := getF X0 hx hZ hown (host := "") (Or.inl (hw _ (List.mem_of_getElem? (i := 38) rfl))) Via.refl e0 F2 (g := (mkF m 1 #[.val (.ref a)] [(.ref a)])) rfl rfl (hb hby d7_1)
  have sg3 : ∀ target, Steps p.tables e below (T2.setTop (mkF m 12 #[.val (.ref a)] [(.ref a)])) target → Steps p.tables e below (T2.setTop (mkF m 4 #[.val (.ref a)] [(.double v)])) target := by
    intro target kt
    show Steps p.tables e below (T2.setTop (mkF m 4 #[.val (.ref a)] [(.double v)])) _
    refine XS.dconst0 X2.here hx rfl (v := (0 : UInt64)) (hb hby d7_4) rfl ?_
    show Steps p.tables e below (T2.setTop (mkF m 5 #[.val (.ref a)] [(.double (0 : UInt64)), (.double v)])) _
    refine XS.dcmpS X2.here hx rfl (v := (cmpValue (FP.dcmp v (0 : UInt64)) .l)) (hb hby d7_5) rfl rfl ?_
    show Steps p.tables e below (T2.setTop (mkF m 6 #[.val (.ref a)] [(.int (cmpValue (FP.dcmp v (0 : UInt64)) .l))])) _
    refine XS.ifYes X2.here hx rfl (pc0 := 6) (pc' := 11) rfl (hb hby d7_6) rfl ((if0 _ _).trans (feq (hz : ¬ ((cmpValue (FP.dcmp v (0 : UInt64)) .l) = (0 : Int32)))).2) (by decide) (by decide) ?_
    show Steps p.tables e below (T2.setTop (mkF m 11 #[.val (.ref a)] [])) _
    refine XS.aloadN X2.here hx rfl (hb hby d7_11) rfl rfl ?_
    exact kt
  obtain ⟨T4, X4, e4, st4⟩ := getF X2 hx hZ hown (host := "") (Or.inl (hw _ (List.mem_of_getElem? (i := 36) rfl))) Via.refl e2 F1 (g := (mkF m 12 #[.val (.ref a)] [(.ref a)])) rfl rfl (hb hby d7_12)
  have sg5 : ∀ target, Steps p.tables e below (T4.setTop (mkF m 16 #[.val (.ref a)] [(.ref a), (.double u)])) target → Steps p.tables e below (T4.setTop (mkF m 15 #[.val (.ref a)] [(.double u)])) target := by
    intro target kt
    show Steps p.tables e below (T4.setTop (mkF m 15 #[.val (.ref a)] [(.double u)])) _
    refine XS.aloadN X4.here hx rfl (hb hby d7_15) rfl rfl ?_
    exact kt
  obtain ⟨T6, X6, e6, st6⟩ := getF X4 hx hZ hown (host := "") (Or.inl (hw _ (List.mem_of_getElem? (i := 38) rfl))) Via.refl e4 F2 (g := (mkF m 16 #[.val (.ref a)] [(.ref a), (.double u)])) rfl rfl (hb hby d7_16)
  have sg7 : ∀ target, Steps p.tables e below (T6.setTop (mkF m 20 #[.val (.ref a)] [(.double (FP.ddiv u v))])) target → Steps p.tables e below (T6.setTop (mkF m 19 #[.val (.ref a)] [(.double v), (.double u)])) target := by
    intro target kt
    show Steps p.tables e below (T6.setTop (mkF m 19 #[.val (.ref a)] [(.double v), (.double u)])) _
    refine XS.ddivS X6.here hx rfl (v := (FP.ddiv u v)) (hb hby d7_19) rfl nn rfl ?_
    exact kt
  obtain ⟨fs, hr, hrun, hended, hW, hsame⟩ := X6.leave (v := some (.double (FP.ddiv u v))) (fun h => by rw [Bd.returns] at h; cases h)
  refine ⟨_, _, pre0 _ ?_, hrun, hended, _, _, rfl, ?_, ⟨_, rfl⟩, hW, hsame.mono (by decide) (by decide)⟩
  · show Steps p.tables e below (s₁.setTop (mkF m 0 #[.val (.ref a)] [])) _
    refine sg1 _ ?_
    refine st2 _ ?_
    refine sg3 _ ?_
    refine st4 _ ?_
    refine sg5 _ ?_
    refine st6 _ ?_
    refine sg7 _ ?_
    show Steps p.tables e below (T6.setTop (mkF m 20 #[.val (.ref a)] [(.double (FP.ddiv u v))])) _
    exact retOut X6 hx Bd.returns rfl (Or.inr (Or.inr (Or.inl ⟨rfl, rfl, _, rfl⟩))) (hb hby d7_20) hr
  · show Q_rm7b Z a u v h0 n0 _ T6.heap _
    rw [e6]
    exact ⟨rfl, N0, rfl⟩
def own_m (p : Int32) : Int32 := (p &&& (32767 : Int32))
theorem own_m_rng (p : Int32) : 0 ≤ (own_m p).toInt ∧ (own_m p).toInt ≤ 32767 := by
  have h := c_mask p (32767 : Int32) 15 (by decide) (by decide)
  unfold own_m; rw [h]
  have := Int.emod_nonneg p.toInt (show ((2 ^ 15 : Nat) : Int) ≠ 0 by decide)
  have := Int.emod_lt_of_pos p.toInt (show (0 : Int) < ((2 ^ 15 : Nat) : Int) by decide)
  omega
def own_u (k l : Int32) : Int32 := (k * l)
theorem own_u_val {k l : Int32} (hk : 0 ≤ k.toInt ∧ k.toInt ≤ 32767) (hl : 0 ≤ l.toInt ∧ l.toInt ≤ 32767) : (own_u k l).toInt = k.toInt * l.toInt ∧ 0 ≤ (own_u k l).toInt := by
  have h1 : 0 ≤ k.toInt * l.toInt := Int.mul_nonneg hk.1 hl.1
  have h2 : k.toInt * l.toInt ≤ 32767 * 32767 := Int.mul_le_mul hk.2 hl.2 hl.1 (by decide)
  have e : (own_u k l).toInt = k.toInt * l.toInt := by
    unfold own_u; rw [Int32.toInt_mul]; exact Int.bmod_eq_of_le (by omega) (by omega)
  exact ⟨e, by omega⟩
theorem own_dv0 : FV.DV 0 0 (0 : UInt64) := FV.dv_lit false 0 (-1074) (by decide +kernel) (by simp [Jvm.FP.Core.signed])
theorem own_dv1 : FV.DV 1 0 (4607182418800017408 : UInt64) := FV.dv_lit false 4503599627370496 (-52) (by decide +kernel) (by decide)
theorem own_nonneg {n : Int32} (h : 0 ≤ n.toInt) : ¬ ((cmpValue (FP.dcmp (FP.i2d n) (0 : UInt64)) .g) < (0 : Int32)) := by
  rcases Int.lt_or_eq_of_le h with h | h
  · rw [FV.cv_gt (FV.dv_i2d n) own_dv0 .g h]; decide
  · rw [FV.cv_eq (FV.dv_i2d n) own_dv0 .g h.symm]; decide
theorem own_fin (n : Int32) : Jvm.Free.Fl.Fin64 (FP.i2d n) := Jvm.Free.Fl.i2d_fin n
theorem own_nz {n : Int32} (h : 0 < n.toInt) : ¬ ((cmpValue (FP.dcmp (FP.i2d n) (0 : UInt64)) .l) = (0 : Int32)) := by
  rw [FV.cv_gt (FV.dv_i2d n) own_dv0 .l h]; decide
theorem own_dn {u l : Int32} (h : 0 < l.toInt) : Jvm.Free.Fl.NoNaN64 (FP.ddiv (FP.i2d u) (FP.i2d l)) := by
  refine Jvm.Free.Fl.ddiv_out (own_fin u).noNaN (own_fin l) ?_
  rw [Jvm.Free.Fl.nz64_iff]
  have := Jvm.FP.Core.i2d_big (v := l) (by omega)
  have e : (2 : Nat) ^ 63 = 9223372036854775808 := by decide
  rw [e] at this
  show (Jvm.FP.Core.i2d l).toNat % 9223372036854775808 ≠ 0
  omega
theorem own_exact {k l : Int32} (hk : 0 ≤ k.toInt ∧ k.toInt ≤ 32767) (hl : 0 < l.toInt ∧ l.toInt ≤ 32767) : cmpValue (FP.dcmp (FP.ddiv (FP.i2d (own_u k l)) (FP.i2d l)) (FP.i2d k)) .l = 0 := by
  have h := FV.dv_div (k := k.toInt) (FV.dv_i2d (own_u k l)) (FV.dv_i2d l) (by omega) (own_u_val hk ⟨by omega, hl.2⟩).1 (by omega) (by decide) (by decide)
  exact FV.cv_eq h (FV.dv_i2d k) .l rfl
theorem own_ratio {r l : Int32} (hr : 0 ≤ r.toInt) (hl : 0 < l.toInt) : ∃ s, Jvm.FP.Core.val64 (FP.ddiv (FP.i2d r) (FP.i2d l)) = Jvm.FP.Core.roundRatio Jvm.FP.Core.b64 s r.toInt.natAbs l.toInt.natAbs 0 ∧ (r.toInt ≠ 0 → s = false) := by
  have h1 := FV.dv_i2d r
  have h2 := FV.dv_i2d l
  unfold FV.DV at h1 h2
  obtain ⟨s, c, q, e1⟩ := FV.val_fin h1
  obtain ⟨t, d, k, e2⟩ := FV.val_fin h2
  rw [e1] at h1; rw [e2] at h2
  refine ⟨s != t, ?_, fun hz => ?_⟩
  · rw [show FP.ddiv (FP.i2d r) (FP.i2d l) = Jvm.FP.Core.ddiv (FP.i2d r) (FP.i2d l) from rfl, Jvm.FP.Core.val64_ddiv, e1, e2, FV.quot_ratio h1 h2 (by omega)]; rfl
  · rw [FV.val_sign h1 hz, FV.val_sign h2 (by omega)]; simp; omega
theorem own_zv (A B : Nat) (e : Int) : Jvm.FP.Core.zval Jvm.FP.Core.b64 (Jvm.FP.Core.roundRatio Jvm.FP.Core.b64 false A B e) = ((Jvm.FP.Core.zmag Jvm.FP.Core.b64 (Jvm.FP.Core.roundRatio Jvm.FP.Core.b64 false A B e) : Nat) : Int) := by
  rcases Jvm.FP.Core.roundRatio_cases Jvm.FP.Core.b64 false A B e with ⟨c, q, h⟩ | h <;> rw [h] <;> rfl
theorem own_pw : (2 : Nat) ^ ((0 : Int) - Jvm.FP.Core.b64.qmin).toNat = 32768 * 2 ^ 1059 := by
  rw [show ((0 : Int) - Jvm.FP.Core.b64.qmin).toNat = 15 + 1059 by decide, Nat.pow_add]
theorem own_rle {A B : Nat} (hB : 0 < B) (h : A * 32768 ≤ 32767 * B) : Jvm.FP.Core.zmag Jvm.FP.Core.b64 (Jvm.FP.Core.roundRatio Jvm.FP.Core.b64 false A B 0) ≤ 32767 * 2 ^ 1059 := by
  have hv : Jvm.FP.Core.zmag Jvm.FP.Core.b64 (Jvm.FP.Core.val64 (4607182143922110464 : UInt64)) = 32767 * 2 ^ 1059 := by decide +kernel
  rw [← hv]
  refine Jvm.FP.Core.zmag_roundRatio_le Jvm.FP.Core.good_b64 (e0 := Jvm.FP.Core.b64.qmin) hB (Jvm.FP.Core.val64_fits _) (by decide +kernel) (Int.le_refl _) (by decide) ?_
  rw [hv, show Jvm.FP.Core.inUnits A 0 Jvm.FP.Core.b64.qmin = A * 2 ^ ((0 : Int) - Jvm.FP.Core.b64.qmin).toNat from rfl, own_pw, show (Jvm.FP.Core.b64.qmin - Jvm.FP.Core.b64.qmin).toNat = 0 by decide, Nat.pow_zero, Nat.mul_one]
  generalize 2 ^ 1059 = P
  calc A * (32768 * P) = A * 32768 * P := by ac_rfl
    _ ≤ 32767 * B * P := Nat.mul_le_mul_right _ h
    _ = _ := by ac_rfl
theorem own_rge {A B : Nat} (hB : 0 < B) (h : 32769 * B ≤ A * 32768) : 32769 * 2 ^ 1059 ≤ Jvm.FP.Core.zmag Jvm.FP.Core.b64 (Jvm.FP.Core.roundRatio Jvm.FP.Core.b64 false A B 0) := by
  have hv : Jvm.FP.Core.zmag Jvm.FP.Core.b64 (Jvm.FP.Core.val64 (4607182556238970880 : UInt64)) = 32769 * 2 ^ 1059 := by decide +kernel
  rw [← hv]
  refine Jvm.FP.Core.zmag_roundRatio_ge Jvm.FP.Core.good_b64 (e0 := Jvm.FP.Core.b64.qmin) hB (Jvm.FP.Core.val64_fits _) (Int.le_refl _) (by decide) ?_
  rw [hv, show Jvm.FP.Core.inUnits A 0 Jvm.FP.Core.b64.qmin = A * 2 ^ ((0 : Int) - Jvm.FP.Core.b64.qmin).toNat from rfl, own_pw, show (Jvm.FP.Core.b64.qmin - Jvm.FP.Core.b64.qmin).toNat = 0 by decide, Nat.pow_zero, Nat.mul_one]
  generalize 2 ^ 1059 = P
  calc 32769 * P * B = 32769 * B * P := by ac_rfl
    _ ≤ A * 32768 * P := Nat.mul_le_mul_right _ h
    _ = _ := by ac_rfl
theorem own_z1 : Jvm.FP.Core.zval Jvm.FP.Core.b64 (Jvm.FP.Core.val64 (4607182418800017408 : UInt64)) = ((32768 * 2 ^ 1059 : Nat) : Int) := by decide +kernel
theorem own_z0 : Jvm.FP.Core.zval Jvm.FP.Core.b64 (Jvm.FP.Core.val64 (0 : UInt64)) = 0 := by decide +kernel
theorem own_less {r l : Int32} (hr : 0 ≤ r.toInt) (hl : l.toInt ≤ 32767) (h : r < l) : cmpValue (FP.dcmp (FP.ddiv (FP.i2d r) (FP.i2d l)) (4607182418800017408 : UInt64)) .g = -1 ∧ ¬ ((cmpValue (FP.dcmp (FP.ddiv (FP.i2d r) (FP.i2d l)) (0 : UInt64)) .g) < (0 : Int32)) := by
  rw [Int32.lt_iff_toInt_lt] at h
  obtain ⟨s, e, hs⟩ := own_ratio hr (by omega : 0 < l.toInt)
  by_cases hz : r.toInt = 0
  · have hv := FV.dv_div (k := 0) (FV.dv_i2d r) (FV.dv_i2d l) (by omega) (by omega) (by decide) (by decide) (by decide)
    exact ⟨FV.cv_lt hv own_dv1 .g (by decide), by rw [FV.cv_eq hv own_dv0 .g rfl]; decide⟩
  · obtain rfl := hs hz
    have hn : Jvm.FP.Core.val64 (FP.ddiv (FP.i2d r) (FP.i2d l)) ≠ .nan := by
      rw [e]; rcases Jvm.FP.Core.roundRatio_cases Jvm.FP.Core.b64 false r.toInt.natAbs l.toInt.natAbs 0 with ⟨c, q, h⟩ | h <;> rw [h] <;> exact Jvm.FP.Core.Datum.noConfusion
    have hle := own_rle (A := r.toInt.natAbs) (B := l.toInt.natAbs) (by omega) (by omega)
    have hp : 0 < 2 ^ 1059 := Nat.two_pow_pos 1059
    constructor
    · rw [show FP.dcmp (FP.ddiv (FP.i2d r) (FP.i2d l)) (4607182418800017408 : UInt64) = Jvm.FP.Core.dcmp (FP.ddiv (FP.i2d r) (FP.i2d l)) (4607182418800017408 : UInt64) from rfl, Jvm.FP.Core.dcmp_zval hn (by decide +kernel), e, own_zv, own_z1]
      generalize 2 ^ 1059 = P at *
      rw [(Jvm.FP.Core.compare_lt_iff _ _).mpr (by omega)]; rfl
    · rw [show FP.dcmp (FP.ddiv (FP.i2d r) (FP.i2d l)) (0 : UInt64) = Jvm.FP.Core.dcmp (FP.ddiv (FP.i2d r) (FP.i2d l)) (0 : UInt64) from rfl, Jvm.FP.Core.dcmp_zval hn (by decide +kernel), e, own_zv, own_z0]
      generalize Jvm.FP.Core.zmag _ _ = Y
      rcases Nat.eq_zero_or_pos Y with h | h
      · rw [(Jvm.FP.Core.compare_eq_iff _ _).mpr (by omega)]; decide
      · rw [(Jvm.FP.Core.compare_gt_iff _ _).mpr (by omega)]; decide
theorem own_more {r l : Int32} (hl0 : 0 < l.toInt) (hl : l.toInt ≤ 32767) (h : ¬ (r < l)) (h2 : ¬ (r = l)) : cmpValue (FP.dcmp (FP.ddiv (FP.i2d r) (FP.i2d l)) (4607182418800017408 : UInt64)) .l = 1 := by
  have h3 : l.toInt < r.toInt := by
    rw [Int32.lt_iff_toInt_lt] at h
    have : r.toInt ≠ l.toInt := fun z => h2 (Int32.toInt_inj.mp z)
    omega
  obtain ⟨s, e, hs⟩ := own_ratio (by omega : 0 ≤ r.toInt) hl0
  obtain rfl := hs (by omega)
  have hn : Jvm.FP.Core.val64 (FP.ddiv (FP.i2d r) (FP.i2d l)) ≠ .nan := by
    rw [e]; rcases Jvm.FP.Core.roundRatio_cases Jvm.FP.Core.b64 false r.toInt.natAbs l.toInt.natAbs 0 with ⟨c, q, h⟩ | h <;> rw [h] <;> exact Jvm.FP.Core.Datum.noConfusion
  have hge := own_rge (A := r.toInt.natAbs) (B := l.toInt.natAbs) (by omega) (by omega)
  have hp : 0 < 2 ^ 1059 := Nat.two_pow_pos 1059
  rw [show FP.dcmp (FP.ddiv (FP.i2d r) (FP.i2d l)) (4607182418800017408 : UInt64) = Jvm.FP.Core.dcmp (FP.ddiv (FP.i2d r) (FP.i2d l)) (4607182418800017408 : UInt64) from rfl, Jvm.FP.Core.dcmp_zval hn (by decide +kernel), e, own_zv, own_z1]
  generalize 2 ^ 1059 = P at *
  rw [(Jvm.FP.Core.compare_gt_iff _ _).mpr (by omega)]; rfl
theorem own_even {r l : Int32} (hl0 : 0 < l.toInt) (h : r = l) : cmpValue (FP.dcmp (FP.ddiv (FP.i2d r) (FP.i2d l)) (4607182418800017408 : UInt64)) .l = 0 := by
  subst h
  exact FV.cv_eq (FV.dv_div (k := 1) (FV.dv_i2d r) (FV.dv_i2d r) (by omega) (by omega) (by decide) (by decide) (by decide)) own_dv1 .l rfl
theorem own_zero {n : Int32} (h : n = (0 : Int32)) : cmpValue (FP.dcmp (FP.i2d n) (0 : UInt64)) .l = 0 := FV.cv_eq (FV.dv_i2d n) own_dv0 .l (by rw [h]; rfl)
theorem own_posm {q : Int32} (h : ¬ (own_m q = (0 : Int32))) : 0 < (own_m q).toInt := by
  rcases Int.lt_or_eq_of_le (own_m_rng q).1 with h1 | h1
  · exact h1
  · exact absurd (Int32.toInt_inj.mp (h1.symm.trans (by decide : (0 : Int) = (0 : Int32).toInt))) h
theorem pd_5 : parseMethodDescriptor "(DD)V" = some ⟨[.double, .double], none⟩ := by decide +kernel
theorem pd_1 : parseMethodDescriptor "()D" = some ⟨[], some .double⟩ := by decide +kernel
theorem pn_0 : plainName "com/example/headroom/headroom/ResourceUsageFractionPinLaw" = true := by first | (simp [plainName, overriddenIn]; done) | decide +kernel
theorem ef_rm0 (m : MethodId) (x0 : Int32) (x1 : Int32) (x2 : Int32) : entryFrame m #[(.int x0), (.int x1), (.int x2)] maxLocals = mkF m 0 #[.val (.int x0), .val (.int x1), .val (.int x2), .unset, .unset, .unset, .unset, .unset, .unset, .unset, .unset, .unset, .unset, .unset, .unset] [] := by first | (simp [entryFrame, mkF, argsToLocals, Value.category, maxLocals]; done) | rfl
def Q_rm0 (Z : State) (i0 : Int32) (i1 : Int32) (i2 : Int32) (h0 : Heap) (n0 : Nat) (rv : Option Value) (h : Heap) (L : List Loc) : Prop := rv = some (.int 1) ∧ Fr n0 L
set_option maxRecDepth 65536 in
set_option maxHeartbeats 40000000 in
theorem rm0 (l : Launch) (Z : State) (a0 : Array Value) (hw : ∀ d ∈ tables_1, d.before a0 Z = true) (ws : List Jvm.Cond) (i0 : Int32) (i1 : Int32) (i2 : Int32) (h0 : Heap) (n0 : Nat) (Z0 : n0 ≤ h0.size) :
    MetFree l x (head1 (Jvm.Cond.code x code maxLocals ret :: ws) room_1) (fun av U => av = #[(.int i0), (.int i1), (.int i2)] ∧ Z.Warmed39 U.vm ∧ U.heap = h0) (fun _ _ _ _ _ => True) (fun _ U o U' => ∃ rv L, o = .returned rv ∧ Q_rm0 Z i0 i1 i2 h0 n0 rv U'.heap L ∧ ReturnedEndW U o U' L room_1.cells room_1.slots) := by
  refine MetFree.of_bodySF (plainFor_of_name pn_0) hisR ?_
  intro p e s m args below meth c s₁ Bd hml0 hP hK
  obtain ⟨rfl, hZ, hh⟩ := hP
  have hx := Bd.exec
  have hby := Bd.bytes
  have hml : c.maxLocals = 15 := hml0
  have hown : s.vm.findClass "com/example/headroom/headroom/ResourceUsageFractionPinLaw" = some m.cls := findClass_of_methodNamed Bd.named
  have hnm := (name_of_methodNamed Bd.named Bd.method).1
  have X0 : Stand p l e room_1 s m #[(.int i0), (.int i1), (.int i2)] below meth c s₁ [] 0 0 := Stand.of_body Bd
  have e0 : s₁.heap = h0 := by rw [← hh, Bd.state]; rfl
  have N0 := Fr.nil n0
  have pre0 : ∀ t, Steps p.tables e below (s₁.setTop (mkF m 0 #[.val (.int i0), .val (.int i1), .val (.int i2), .unset, .unset, .unset, .unset, .unset, .unset, .unset, .unset, .unset, .unset, .unset, .unset] [])) t → Steps p.tables e below (s₁.setTop (entryFrame m #[(.int i0), (.int i1), (.int i2)] maxLocals)) t := fun t k => castTop (ef_rm0 m i0 i1 i2) k
  have hS0 : s.Since s.vm h0.size := State.WarmedH.since (State.WarmedH.refl s) _
  have sg1 : ∀ target, Steps p.tables e below (s₁.setTop (mkF m 26 #[.val (.int i0), .val (.int i1), .val (.int i2), .val (.int (own_m i0)), .val (.int (own_m i1)), .val (.int (own_m i2)), .val (.int (own_u (own_m i1) (own_m i0))), .unset, .unset, .unset, .unset, .unset, .unset, .unset, .unset] [])) target → Steps p.tables e below (s₁.setTop (mkF m 0 #[.val (.int i0), .val (.int i1), .val (.int i2), .unset, .unset, .unset, .unset, .unset, .unset, .unset, .unset, .unset, .unset, .unset, .unset] [])) target := by
    intro target kt
    show Steps p.tables e below (s₁.setTop (mkF m 0 #[.val (.int i0), .val (.int i1), .val (.int i2), .unset, .unset, .unset, .unset, .unset, .unset, .unset, .unset, .unset, .unset, .unset, .unset] [])) _
    refine XS.iloadN X0.here hx rfl (hb hby at_0) rfl ?_
    show Steps p.tables e below (s₁.setTop (mkF m 1 #[.val (.int i0), .val (.int i1), .val (.int i2), .unset, .unset, .unset, .unset, .unset, .unset, .unset, .unset, .unset, .unset, .unset, .unset] [(.int i0)])) _
    refine XS.sipush X0.here hx rfl (hb hby at_1) ?_
    show Steps p.tables e below (s₁.setTop (mkF m 4 #[.val (.int i0), .val (.int i1), .val (.int i2), .unset, .unset, .unset, .unset, .unset, .unset, .unset, .unset, .unset, .unset, .unset, .unset] [(.int (32767 : Int32)), (.int i0)])) _
    refine XS.iand X0.here hx rfl (hb hby at_4) rfl ?_
    show Steps p.tables e below (s₁.setTop (mkF m 5 #[.val (.int i0), .val (.int i1), .val (.int i2), .unset, .unset, .unset, .unset, .unset, .unset, .unset, .unset, .unset, .unset, .unset, .unset] [(.int (own_m i0))])) _
    refine XS.istoreN X0.here hx rfl (hb hby at_5) rfl (l' := #[.val (.int i0), .val (.int i1), .val (.int i2), .val (.int (own_m i0)), .unset, .unset, .unset, .unset, .unset, .unset, .unset, .unset, .unset, .unset, .unset]) rfl ?_
    show Steps p.tables e below (s₁.setTop (mkF m 6 #[.val (.int i0), .val (.int i1), .val (.int i2), .val (.int (own_m i0)), .unset, .unset, .unset, .unset, .unset, .unset, .unset, .unset, .unset, .unset, .unset] [])) _
    refine XS.iloadN X0.here hx rfl (hb hby at_6) rfl ?_
    show Steps p.tables e below (s₁.setTop (mkF m 7 #[.val (.int i0), .val (.int i1), .val (.int i2), .val (.int (own_m i0)), .unset, .unset, .unset, .unset, .unset, .unset, .unset, .unset, .unset, .unset, .unset] [(.int i1)])) _
    refine XS.sipush X0.here hx rfl (hb hby at_7) ?_
    show Steps p.tables e below (s₁.setTop (mkF m 10 #[.val (.int i0), .val (.int i1), .val (.int i2), .val (.int (own_m i0)), .unset, .unset, .unset, .unset, .unset, .unset, .unset, .unset, .unset, .unset, .unset] [(.int (32767 : Int32)), (.int i1)])) _
    refine XS.iand X0.here hx rfl (hb hby at_10) rfl ?_
    show Steps p.tables e below (s₁.setTop (mkF m 11 #[.val (.int i0), .val (.int i1), .val (.int i2), .val (.int (own_m i0)), .unset, .unset, .unset, .unset, .unset, .unset, .unset, .unset, .unset, .unset, .unset] [(.int (own_m i1))])) _
    refine XS.istore X0.here hx rfl (hb hby at_11) rfl (l' := #[.val (.int i0), .val (.int i1), .val (.int i2), .val (.int (own_m i0)), .val (.int (own_m i1)), .unset, .unset, .unset, .unset, .unset, .unset, .unset, .unset, .unset, .unset]) rfl ?_
    show Steps p.tables e below (s₁.setTop (mkF m 13 #[.val (.int i0), .val (.int i1), .val (.int i2), .val (.int (own_m i0)), .val (.int (own_m i1)), .unset, .unset, .unset, .unset, .unset, .unset, .unset, .unset, .unset, .unset] [])) _
    refine XS.iloadN X0.here hx rfl (hb hby at_13) rfl ?_
    show Steps p.tables e below (s₁.setTop (mkF m 14 #[.val (.int i0), .val (.int i1), .val (.int i2), .val (.int (own_m i0)), .val (.int (own_m i1)), .unset, .unset, .unset, .unset, .unset, .unset, .unset, .unset, .unset, .unset] [(.int i2)])) _
    refine XS.sipush X0.here hx rfl (hb hby at_14) ?_
    show Steps p.tables e below (s₁.setTop (mkF m 17 #[.val (.int i0), .val (.int i1), .val (.int i2), .val (.int (own_m i0)), .val (.int (own_m i1)), .unset, .unset, .unset, .unset, .unset, .unset, .unset, .unset, .unset, .unset] [(.int (32767 : Int32)), (.int i2)])) _
    refine XS.iand X0.here hx rfl (hb hby at_17) rfl ?_
    show Steps p.tables e below (s₁.setTop (mkF m 18 #[.val (.int i0), .val (.int i1), .val (.int i2), .val (.int (own_m i0)), .val (.int (own_m i1)), .unset, .unset, .unset, .unset, .unset, .unset, .unset, .unset, .unset, .unset] [(.int (own_m i2))])) _
    refine XS.istore X0.here hx rfl (hb hby at_18) rfl (l' := #[.val (.int i0), .val (.int i1), .val (.int i2), .val (.int (own_m i0)), .val (.int (own_m i1)), .val (.int (own_m i2)), .unset, .unset, .unset, .unset, .unset, .unset, .unset, .unset, .unset]) rfl ?_
    show Steps p.tables e below (s₁.setTop (mkF m 20 #[.val (.int i0), .val (.int i1), .val (.int i2), .val (.int (own_m i0)), .val (.int (own_m i1)), .val (.int (own_m i2)), .unset, .unset, .unset, .unset, .unset, .unset, .unset, .unset, .unset] [])) _
    refine XS.iload X0.here hx rfl (hb hby at_20) rfl ?_
    show Steps p.tables e below (s₁.setTop (mkF m 22 #[.val (.int i0), .val (.int i1), .val (.int i2), .val (.int (own_m i0)), .val (.int (own_m i1)), .val (.int (own_m i2)), .unset, .unset, .unset, .unset, .unset, .unset, .unset, .unset, .unset] [(.int (own_m i1))])) _
    refine XS.iloadN X0.here hx rfl (hb hby at_22) rfl ?_
    show Steps p.tables e below (s₁.setTop (mkF m 23 #[.val (.int i0), .val (.int i1), .val (.int i2), .val (.int (own_m i0)), .val (.int (own_m i1)), .val (.int (own_m i2)), .unset, .unset, .unset, .unset, .unset, .unset, .unset, .unset, .unset] [(.int (own_m i0)), (.int (own_m i1))])) _
    refine XS.imul X0.here hx rfl (hb hby at_23) rfl ?_
    show Steps p.tables e below (s₁.setTop (mkF m 24 #[.val (.int i0), .val (.int i1), .val (.int i2), .val (.int (own_m i0)), .val (.int (own_m i1)), .val (.int (own_m i2)), .unset, .unset, .unset, .unset, .unset, .unset, .unset, .unset, .unset] [(.int (own_u (own_m i1) (own_m i0)))])) _
    refine XS.istore X0.here hx rfl (hb hby at_24) rfl (l' := #[.val (.int i0), .val (.int i1), .val (.int i2), .val (.int (own_m i0)), .val (.int (own_m i1)), .val (.int (own_m i2)), .val (.int (own_u (own_m i1) (own_m i0))), .unset, .unset, .unset, .unset, .unset, .unset, .unset, .unset]) rfl ?_
    exact kt
  obtain ⟨T2, h2, X2, e2, E2, A2, D2, -, st2⟩ := newO X0 hx hZ hown (hw _ (List.mem_of_getElem? (i := 0) rfl)) (hw _ (List.mem_of_getElem? (i := 1) rfl)) (hw _ (List.mem_of_getElem? (i := 2) rfl)) e0 (g := (mkF m 26 #[.val (.int i0), .val (.int i1), .val (.int i2), .val (.int (own_m i0)), .val (.int (own_m i1)), .val (.int (own_m i2)), .val (.int (own_u (own_m i1) (own_m i0))), .unset, .unset, .unset, .unset, .unset, .unset, .unset, .unset] [])) rfl (hb hby at_26) (by decide) (by decide)
  obtain ⟨b2, g2⟩ : ∃ z, z = h0.size := ⟨_, rfl⟩
  rw [← g2] at A2 D2 st2
  have g_b2 : n0 ≤ b2 := Nat.le_trans Z0 (Nat.le_of_eq g2.symm)
  have Zs2 : n0 ≤ h2.size := Nat.le_trans Z0 E2.1
  have f3 : Exa Z h2 b2 "com/example/headroom/headroom/ResourceUsage" := A2
  have f4 : Fld Z h2 b2 "com/example/headroom/headroom/ResourceUsage" "usage" "D" (.double (0 : UInt64)) := D2 (Or.inr (hw _ (List.mem_of_getElem? (i := 37) rfl))) (ty := .double) (by decide)
  have f5 : Fld Z h2 b2 "com/example/headroom/headroom/ResourceUsage" "limit" "D" (.double (0 : UInt64)) := D2 (Or.inr (hw _ (List.mem_of_getElem? (i := 39) rfl))) (ty := .double) (by decide)
  have sg6 : ∀ target, Steps p.tables e below (T2.setTop (mkF m 35 #[.val (.int i0), .val (.int i1), .val (.int i2), .val (.int (own_m i0)), .val (.int (own_m i1)), .val (.int (own_m i2)), .val (.int (own_u (own_m i1) (own_m i0))), .unset, .unset, .unset, .unset, .unset, .unset, .unset, .unset] [(.double (FP.i2d (own_m i0))), (.double (FP.i2d (own_u (own_m i1) (own_m i0)))), (.ref b2), (.ref b2)])) target → Steps p.tables e below (T2.setTop (mkF m 29 #[.val (.int i0), .val (.int i1), .val (.int i2), .val (.int (own_m i0)), .val (.int (own_m i1)), .val (.int (own_m i2)), .val (.int (own_u (own_m i1) (own_m i0))), .unset, .unset, .unset, .unset, .unset, .unset, .unset, .unset] [(.ref b2)])) target := by
    intro target kt
    show Steps p.tables e below (T2.setTop (mkF m 29 #[.val (.int i0), .val (.int i1), .val (.int i2), .val (.int (own_m i0)), .val (.int (own_m i1)), .val (.int (own_m i2)), .val (.int (own_u (own_m i1) (own_m i0))), .unset, .unset, .unset, .unset, .unset, .unset, .unset, .unset] [(.ref b2)])) _
    refine XS.dup X2.here hx rfl (hb hby at_29) rfl rfl ?_
    show Steps p.tables e below (T2.setTop (mkF m 30 #[.val (.int i0), .val (.int i1), .val (.int i2), .val (.int (own_m i0)), .val (.int (own_m i1)), .val (.int (own_m i2)), .val (.int (own_u (own_m i1) (own_m i0))), .unset, .unset, .unset, .unset, .unset, .unset, .unset, .unset] [(.ref b2), (.ref b2)])) _
    refine XS.iload X2.here hx rfl (hb hby at_30) rfl ?_
    show Steps p.tables e below (T2.setTop (mkF m 32 #[.val (.int i0), .val (.int i1), .val (.int i2), .val (.int (own_m i0)), .val (.int (own_m i1)), .val (.int (own_m i2)), .val (.int (own_u (own_m i1) (own_m i0))), .unset, .unset, .unset, .unset, .unset, .unset, .unset, .unset] [(.int (own_u (own_m i1) (own_m i0))), (.ref b2), (.ref b2)])) _
    refine XS.i2dS X2.here hx rfl (v := (FP.i2d (own_u (own_m i1) (own_m i0)))) (hb hby at_32) rfl rfl ?_
    show Steps p.tables e below (T2.setTop (mkF m 33 #[.val (.int i0), .val (.int i1), .val (.int i2), .val (.int (own_m i0)), .val (.int (own_m i1)), .val (.int (own_m i2)), .val (.int (own_u (own_m i1) (own_m i0))), .unset, .unset, .unset, .unset, .unset, .unset, .unset, .unset] [(.double (FP.i2d (own_u (own_m i1) (own_m i0)))), (.ref b2), (.ref b2)])) _
    refine XS.iloadN X2.here hx rfl (hb hby at_33) rfl ?_
    show Steps p.tables e below (T2.setTop (mkF m 34 #[.val (.int i0), .val (.int i1), .val (.int i2), .val (.int (own_m i0)), .val (.int (own_m i1)), .val (.int (own_m i2)), .val (.int (own_u (own_m i1) (own_m i0))), .unset, .unset, .unset, .unset, .unset, .unset, .unset, .unset] [(.int (own_m i0)), (.double (FP.i2d (own_u (own_m i1) (own_m i0)))), (.ref b2), (.ref b2)])) _
    refine XS.i2dS X2.here hx rfl (v := (FP.i2d (own_m i0))) (hb hby at_34) rfl rfl ?_
    exact kt
  obtain ⟨_, _, ⟨T7, L7, k7, n7⟩, -, X7, hs7, gr7, ⟨Lc7, hQ7, l7, y7, z7⟩, st7⟩ := X2.specialBackS hx (y := (⟨"com/example/headroom/headroom/ResourceUsage", "<init>", "(DD)V"⟩ : MethodName)) rfl hown (mvT hZ (hw _ (List.mem_of_getElem? (i := 3) rfl))) (mvT hZ (hw _ (List.mem_of_getElem? (i := 4) rfl))) (mvT hZ (hw _ (List.mem_of_getElem? (i := 5) rfl))) (by decide) (backOfS (W := 1) (rm1 l Z a0 hw [] b2 (FP.i2d (own_u (own_m i1) (own_m i0))) (FP.i2d (own_m i0)) h2 n0 Zs2 f3 f4 f5 g_b2 (own_fin (own_u (own_m i1) (own_m i0))) (own_nonneg (own_u_val (own_m_rng i1) (own_m_rng i0)).2) (own_fin (own_m i0)) (own_nonneg (own_m_rng i0).1)) hZ (hw _ (List.mem_of_getElem? (i := 5) rfl)) (hw _ (List.mem_of_getElem? (i := 2) rfl)) (by decide) (by decide)) (g := (mkF m 35 #[.val (.int i0), .val (.int i1), .val (.int i2), .val (.int (own_m i0)), .val (.int (own_m i1)), .val (.int (own_m i2)), .val (.int (own_u (own_m i1) (own_m i0))), .unset, .unset, .unset, .unset, .unset, .unset, .unset, .unset] [(.double (FP.i2d (own_m i0))), (.double (FP.i2d (own_u (own_m i1) (own_m i0)))), (.ref b2), (.ref b2)])) rfl (by rw [hml]; rfl) (Steps.refl _) (a := b2) (argsL := [(.double (FP.i2d (own_u (own_m i1) (own_m i0)))), (.double (FP.i2d (own_m i0)))]) (rest := [(.ref b2)]) (lenOf pd_5 rfl) rfl (by show 2 * 0 + _ ≤ _; exact Nat.le_of_eq rfl) (hb hby at_35) (fun _ _ => ⟨rfl, e2, (by decide : 1 + 4 ≤ _), (by decide : 2 + 48 ≤ _)⟩)
  dsimp only [Pt.U, Pt.locs, Pt.cells, Pt.slots] at X7 l7 y7 z7 st7 hQ7
  subst l7 y7 z7
  dsimp only [Pt.U] at hs7 gr7
  obtain ⟨X7r, hS7, hZ7, hown7⟩ := rebS (s := s) (vm0 := s.vm) hS0 (by rw [e2]; exact (Nat.le_trans (Nat.le_refl h0.size) E2.1)) X7 hs7 gr7 hZ hown
  obtain ⟨rfl, N7q, c7_0, c7_1, c7_2, c7_3⟩ := hQ7
  have N7 := Fr.app N0 N7q
  have Zs7 : n0 ≤ T7.heap.size := Nat.le_trans Zs2 c7_0.1
  have f8 : Exa Z T7.heap b2 "com/example/headroom/headroom/ResourceUsage" := c7_1
  have f9 : Fld Z T7.heap b2 "com/example/headroom/headroom/ResourceUsage" "usage" "D" (.double (FP.i2d (own_u (own_m i1) (own_m i0)))) := c7_2
  have f10 : Fld Z T7.heap b2 "com/example/headroom/headroom/ResourceUsage" "limit" "D" (.double (FP.i2d (own_m i0))) := c7_3
  have sg11 : ∀ target, Steps p.tables e below (T7.setTop (mkF m 40 #[.val (.int i0), .val (.int i1), .val (.int i2), .val (.int (own_m i0)), .val (.int (own_m i1)), .val (.int (own_m i2)), .val (.int (own_u (own_m i1) (own_m i0))), .val (.ref b2), .unset, .unset, .unset, .unset, .unset, .unset, .unset] [])) target → Steps p.tables e below (T7.setTop (mkF m 38 #[.val (.int i0), .val (.int i1), .val (.int i2), .val (.int (own_m i0)), .val (.int (own_m i1)), .val (.int (own_m i2)), .val (.int (own_u (own_m i1) (own_m i0))), .unset, .unset, .unset, .unset, .unset, .unset, .unset, .unset] [(.ref b2)])) target := by
    intro target kt
    show Steps p.tables e below (T7.setTop (mkF m 38 #[.val (.int i0), .val (.int i1), .val (.int i2), .val (.int (own_m i0)), .val (.int (own_m i1)), .val (.int (own_m i2)), .val (.int (own_u (own_m i1) (own_m i0))), .unset, .unset, .unset, .unset, .unset, .unset, .unset, .unset] [(.ref b2)])) _
    refine XS.astore X7r.here hx rfl (hb hby at_38) rfl rfl (l' := #[.val (.int i0), .val (.int i1), .val (.int i2), .val (.int (own_m i0)), .val (.int (own_m i1)), .val (.int (own_m i2)), .val (.int (own_u (own_m i1) (own_m i0))), .val (.ref b2), .unset, .unset, .unset, .unset, .unset, .unset, .unset]) rfl ?_
    exact kt
  obtain ⟨T12, h12, X12, e12, E12, A12, D12, -, st12⟩ := newO X7r hx hZ7 hown7 (hw _ (List.mem_of_getElem? (i := 0) rfl)) (hw _ (List.mem_of_getElem? (i := 1) rfl)) (hw _ (List.mem_of_getElem? (i := 2) rfl)) rfl (g := (mkF m 40 #[.val (.int i0), .val (.int i1), .val (.int i2), .val (.int (own_m i0)), .val (.int (own_m i1)), .val (.int (own_m i2)), .val (.int (own_u (own_m i1) (own_m i0))), .val (.ref b2), .unset, .unset, .unset, .unset, .unset, .unset, .unset] [])) rfl (hb hby at_40) (by decide) (by decide)
  obtain ⟨b12, g12⟩ : ∃ z, z = T7.heap.size := ⟨_, rfl⟩
  rw [← g12] at A12 D12 st12
  have g_b12 : n0 ≤ b12 := Nat.le_trans Zs7 (Nat.le_of_eq g12.symm)
  have ne_b2_b12 : b2 ≠ b12 := Nat.ne_of_lt (Nat.lt_of_lt_of_le f8.lt (Nat.le_of_eq g12.symm))
  have Zs12 : n0 ≤ h12.size := Nat.le_trans Zs7 E12.1
  have f13 : Exa Z h12 b2 "com/example/headroom/headroom/ResourceUsage" := f8.ext E12
  have f14 : Fld Z h12 b2 "com/example/headroom/headroom/ResourceUsage" "usage" "D" (.double (FP.i2d (own_u (own_m i1) (own_m i0)))) := f9.ext E12
  have f15 : Fld Z h12 b2 "com/example/headroom/headroom/ResourceUsage" "limit" "D" (.double (FP.i2d (own_m i0))) := f10.ext E12
  have f16 : Exa Z h12 b12 "com/example/headroom/headroom/ResourceUsage" := A12
  have f17 : Fld Z h12 b12 "com/example/headroom/headroom/ResourceUsage" "usage" "D" (.double (0 : UInt64)) := D12 (Or.inr (hw _ (List.mem_of_getElem? (i := 37) rfl))) (ty := .double) (by decide)
  have f18 : Fld Z h12 b12 "com/example/headroom/headroom/ResourceUsage" "limit" "D" (.double (0 : UInt64)) := D12 (Or.inr (hw _ (List.mem_of_getElem? (i := 39) rfl))) (ty := .double) (by decide)
  have sg19 : ∀ target, Steps p.tables e below (T12.setTop (mkF m 49 #[.val (.int i0), .val (.int i1), .val (.int i2), .val (.int (own_m i0)), .val (.int (own_m i1)), .val (.int (own_m i2)), .val (.int (own_u (own_m i1) (own_m i0))), .val (.ref b2), .unset, .unset, .unset, .unset, .unset, .unset, .unset] [(.double (FP.i2d (own_m i0))), (.double (FP.i2d (own_m i2))), (.ref b12), (.ref b12)])) target → Steps p.tables e below (T12.setTop (mkF m 43 #[.val (.int i0), .val (.int i1), .val (.int i2), .val (.int (own_m i0)), .val (.int (own_m i1)), .val (.int (own_m i2)), .val (.int (own_u (own_m i1) (own_m i0))), .val (.ref b2), .unset, .unset, .unset, .unset, .unset, .unset, .unset] [(.ref b12)])) target := by
    intro target kt
    show Steps p.tables e below (T12.setTop (mkF m 43 #[.val (.int i0), .val (.int i1), .val (.int i2), .val (.int (own_m i0)), .val (.int (own_m i1)), .val (.int (own_m i2)), .val (.int (own_u (own_m i1) (own_m i0))), .val (.ref b2), .unset, .unset, .unset, .unset, .unset, .unset, .unset] [(.ref b12)])) _
    refine XS.dup X12.here hx rfl (hb hby at_43) rfl rfl ?_
    show Steps p.tables e below (T12.setTop (mkF m 44 #[.val (.int i0), .val (.int i1), .val (.int i2), .val (.int (own_m i0)), .val (.int (own_m i1)), .val (.int (own_m i2)), .val (.int (own_u (own_m i1) (own_m i0))), .val (.ref b2), .unset, .unset, .unset, .unset, .unset, .unset, .unset] [(.ref b12), (.ref b12)])) _
    refine XS.iload X12.here hx rfl (hb hby at_44) rfl ?_
    show Steps p.tables e below (T12.setTop (mkF m 46 #[.val (.int i0), .val (.int i1), .val (.int i2), .val (.int (own_m i0)), .val (.int (own_m i1)), .val (.int (own_m i2)), .val (.int (own_u (own_m i1) (own_m i0))), .val (.ref b2), .unset, .unset, .unset, .unset, .unset, .unset, .unset] [(.int (own_m i2)), (.ref b12), (.ref b12)])) _
    refine XS.i2dS X12.here hx rfl (v := (FP.i2d (own_m i2))) (hb hby at_46) rfl rfl ?_
    show Steps p.tables e below (T12.setTop (mkF m 47 #[.val (.int i0), .val (.int i1), .val (.int i2), .val (.int (own_m i0)), .val (.int (own_m i1)), .val (.int (own_m i2)), .val (.int (own_u (own_m i1) (own_m i0))), .val (.ref b2), .unset, .unset, .unset, .unset, .unset, .unset, .unset] [(.double (FP.i2d (own_m i2))), (.ref b12), (.ref b12)])) _
    refine XS.iloadN X12.here hx rfl (hb hby at_47) rfl ?_
    show Steps p.tables e below (T12.setTop (mkF m 48 #[.val (.int i0), .val (.int i1), .val (.int i2), .val (.int (own_m i0)), .val (.int (own_m i1)), .val (.int (own_m i2)), .val (.int (own_u (own_m i1) (own_m i0))), .val (.ref b2), .unset, .unset, .unset, .unset, .unset, .unset, .unset] [(.int (own_m i0)), (.double (FP.i2d (own_m i2))), (.ref b12), (.ref b12)])) _
    refine XS.i2dS X12.here hx rfl (v := (FP.i2d (own_m i0))) (hb hby at_48) rfl rfl ?_
    exact kt
  obtain ⟨_, _, ⟨T20, L20, k20, n20⟩, -, X20, hs20, gr20, ⟨Lc20, hQ20, l20, y20, z20⟩, st20⟩ := X12.specialBackS hx (y := (⟨"com/example/headroom/headroom/ResourceUsage", "<init>", "(DD)V"⟩ : MethodName)) rfl hown7 (mvT hZ7 (hw _ (List.mem_of_getElem? (i := 3) rfl))) (mvT hZ7 (hw _ (List.mem_of_getElem? (i := 4) rfl))) (mvT hZ7 (hw _ (List.mem_of_getElem? (i := 5) rfl))) (by decide) (backOfS (W := 1) (rm1 l Z a0 hw [] b12 (FP.i2d (own_m i2)) (FP.i2d (own_m i0)) h12 n0 Zs12 f16 f17 f18 g_b12 (own_fin (own_m i2)) (own_nonneg (own_m_rng i2).1) (own_fin (own_m i0)) (own_nonneg (own_m_rng i0).1)) hZ7 (hw _ (List.mem_of_getElem? (i := 5) rfl)) (hw _ (List.mem_of_getElem? (i := 2) rfl)) (by decide) (by decide)) (g := (mkF m 49 #[.val (.int i0), .val (.int i1), .val (.int i2), .val (.int (own_m i0)), .val (.int (own_m i1)), .val (.int (own_m i2)), .val (.int (own_u (own_m i1) (own_m i0))), .val (.ref b2), .unset, .unset, .unset, .unset, .unset, .unset, .unset] [(.double (FP.i2d (own_m i0))), (.double (FP.i2d (own_m i2))), (.ref b12), (.ref b12)])) rfl (by rw [hml]; rfl) (Steps.refl _) (a := b12) (argsL := [(.double (FP.i2d (own_m i2))), (.double (FP.i2d (own_m i0)))]) (rest := [(.ref b12)]) (lenOf pd_5 rfl) rfl (by show 2 * 0 + _ ≤ _; exact Nat.le_of_eq rfl) (hb hby at_49) (fun _ _ => ⟨rfl, e12, (by decide : 6 + 4 ≤ _), (by decide : 52 + 48 ≤ _)⟩)
  dsimp only [Pt.U, Pt.locs, Pt.cells, Pt.slots] at X20 l20 y20 z20 st20 hQ20
  subst l20 y20 z20
  dsimp only [Pt.U] at hs20 gr20
  obtain ⟨X20r, hS20, hZ20, hown20⟩ := rebS (s := s) (vm0 := T7.vm) hS7 (by rw [e12]; exact (Nat.le_trans (Nat.le_refl _) E12.1)) X20 hs20 gr20 hZ7 hown7
  obtain ⟨rfl, N20q, c20_0, c20_1, c20_2, c20_3⟩ := hQ20
  have N20 := Fr.app N7 N20q
  have Zs20 : n0 ≤ T20.heap.size := Nat.le_trans Zs12 c20_0.1
  have f21 : Exa Z T20.heap b2 "com/example/headroom/headroom/ResourceUsage" := f13.keep c20_0
  have f22 : Fld Z T20.heap b2 "com/example/headroom/headroom/ResourceUsage" "usage" "D" (.double (FP.i2d (own_u (own_m i1) (own_m i0)))) := f14.keep c20_0 (ninS ne_b2_b12 nin0)
  have f23 : Fld Z T20.heap b2 "com/example/headroom/headroom/ResourceUsage" "limit" "D" (.double (FP.i2d (own_m i0))) := f15.keep c20_0 (ninS ne_b2_b12 nin0)
  have f24 : Exa Z T20.heap b12 "com/example/headroom/headroom/ResourceUsage" := c20_1
  have f25 : Fld Z T20.heap b12 "com/example/headroom/headroom/ResourceUsage" "usage" "D" (.double (FP.i2d (own_m i2))) := c20_2
  have f26 : Fld Z T20.heap b12 "com/example/headroom/headroom/ResourceUsage" "limit" "D" (.double (FP.i2d (own_m i0))) := c20_3
  have sg27 : ∀ target, Steps p.tables e below (T20.setTop (mkF m 54 #[.val (.int i0), .val (.int i1), .val (.int i2), .val (.int (own_m i0)), .val (.int (own_m i1)), .val (.int (own_m i2)), .val (.int (own_u (own_m i1) (own_m i0))), .val (.ref b2), .val (.ref b12), .unset, .unset, .unset, .unset, .unset, .unset] [])) target → Steps p.tables e below (T20.setTop (mkF m 52 #[.val (.int i0), .val (.int i1), .val (.int i2), .val (.int (own_m i0)), .val (.int (own_m i1)), .val (.int (own_m i2)), .val (.int (own_u (own_m i1) (own_m i0))), .val (.ref b2), .unset, .unset, .unset, .unset, .unset, .unset, .unset] [(.ref b12)])) target := by
    intro target kt
    show Steps p.tables e below (T20.setTop (mkF m 52 #[.val (.int i0), .val (.int i1), .val (.int i2), .val (.int (own_m i0)), .val (.int (own_m i1)), .val (.int (own_m i2)), .val (.int (own_u (own_m i1) (own_m i0))), .val (.ref b2), .unset, .unset, .unset, .unset, .unset, .unset, .unset] [(.ref b12)])) _
    refine XS.astore X20r.here hx rfl (hb hby at_52) rfl rfl (l' := #[.val (.int i0), .val (.int i1), .val (.int i2), .val (.int (own_m i0)), .val (.int (own_m i1)), .val (.int (own_m i2)), .val (.int (own_u (own_m i1) (own_m i0))), .val (.ref b2), .val (.ref b12), .unset, .unset, .unset, .unset, .unset, .unset]) rfl ?_
    exact kt
  by_cases hz : (own_m i0) = (0 : Int32)
  · have sg28 : ∀ target, Steps p.tables e below (T20.setTop (mkF m 56 #[.val (.int i0), .val (.int i1), .val (.int i2), .val (.int (own_m i0)), .val (.int (own_m i1)), .val (.int (own_m i2)), .val (.int (own_u (own_m i1) (own_m i0))), .val (.ref b2), .val (.ref b12), .unset, .unset, .unset, .unset, .unset, .unset] [(.ref b2)])) target → Steps p.tables e below (T20.setTop (mkF m 54 #[.val (.int i0), .val (.int i1), .val (.int i2), .val (.int (own_m i0)), .val (.int (own_m i1)), .val (.int (own_m i2)), .val (.int (own_u (own_m i1) (own_m i0))), .val (.ref b2), .val (.ref b12), .unset, .unset, .unset, .unset, .unset, .unset] [])) target := by
      intro target kt
      show Steps p.tables e below (T20.setTop (mkF m 54 #[.val (.int i0), .val (.int i1), .val (.int i2), .val (.int (own_m i0)), .val (.int (own_m i1)), .val (.int (own_m i2)), .val (.int (own_u (own_m i1) (own_m i0))), .val (.ref b2), .val (.ref b12), .unset, .unset, .unset, .unset, .unset, .unset] [])) _
      refine XS.aload X20r.here hx rfl (hb hby at_54) rfl rfl ?_
      exact kt
    obtain ⟨cq29, kq29, q29a, q29b, q29c⟩ := isOf hZ20 rfl f21
    obtain ⟨_, _, ⟨T29, L29, k29, n29⟩, -, X29, ⟨Lc29, hQ29, l29, y29, z29⟩, st29⟩ := X20r.virtualBack hx (y := (⟨"com/example/headroom/headroom/ResourceUsage", "fraction", "()D"⟩ : MethodName)) (z := (⟨"com/example/headroom/headroom/ResourceUsage", "fraction", "()D"⟩ : MethodName)) hown20 (mvT hZ20 (hw _ (List.mem_of_getElem? (i := 40) rfl))) (mvT hZ20 (hw _ (List.mem_of_getElem? (i := 41) rfl))) (notFace_of_selects (args := #[]) (mvT hZ20 (hw _ (List.mem_of_getElem? (i := 43) rfl)))) (mvT hZ20 (hw _ (List.mem_of_getElem? (i := 43) rfl))) (mvT hZ20 (hw _ (List.mem_of_getElem? (i := 42) rfl))) (by decide) (backOf (W := 0) (rm7a l Z a0 hw [] b2 (FP.i2d (own_m i0)) T20.heap n0 Zs20 f23 (own_zero hz)) hZ20 (hw _ (List.mem_of_getElem? (i := 44) rfl)) (hw _ (List.mem_of_getElem? (i := 2) rfl)) (by decide) (by decide)) q29a q29c (g := (mkF m 56 #[.val (.int i0), .val (.int i1), .val (.int i2), .val (.int (own_m i0)), .val (.int (own_m i1)), .val (.int (own_m i2)), .val (.int (own_u (own_m i1) (own_m i0))), .val (.ref b2), .val (.ref b12), .unset, .unset, .unset, .unset, .unset, .unset] [(.ref b2)])) rfl (by rw [hml]; rfl) (Steps.refl _) (argsL := []) (rest := []) (lenOf pd_1 rfl) rfl (by show 2 * 0 + _ ≤ _; exact Nat.le_of_eq rfl) (hb hby at_56) (fun _ _ => ⟨rfl, rfl, (by decide : 10 + 0 ≤ _), (by decide : 100 + 0 ≤ _)⟩)
    dsimp only [Pt.U, Pt.locs, Pt.cells, Pt.slots] at X29 l29 y29 z29 st29 hQ29
    subst l29 y29 z29
    obtain ⟨rfl, N29q, c29_0⟩ := hQ29
    have N29 := Fr.app N20 N29q
    have sg30 : ∀ target, Steps p.tables e below (T29.setTop (mkF m 63 #[.val (.int i0), .val (.int i1), .val (.int i2), .val (.int (own_m i0)), .val (.int (own_m i1)), .val (.int (own_m i2)), .val (.int (own_u (own_m i1) (own_m i0))), .val (.ref b2), .val (.ref b12), .val (.double (0 : UInt64)), .second, .unset, .unset, .unset, .unset] [(.ref b12)])) target → Steps p.tables e below (T29.setTop (mkF m 59 #[.val (.int i0), .val (.int i1), .val (.int i2), .val (.int (own_m i0)), .val (.int (own_m i1)), .val (.int (own_m i2)), .val (.int (own_u (own_m i1) (own_m i0))), .val (.ref b2), .val (.ref b12), .unset, .unset, .unset, .unset, .unset, .unset] [(.double (0 : UInt64))])) target := by
      intro target kt
      show Steps p.tables e below (T29.setTop (mkF m 59 #[.val (.int i0), .val (.int i1), .val (.int i2), .val (.int (own_m i0)), .val (.int (own_m i1)), .val (.int (own_m i2)), .val (.int (own_u (own_m i1) (own_m i0))), .val (.ref b2), .val (.ref b12), .unset, .unset, .unset, .unset, .unset, .unset] [(.double (0 : UInt64))])) _
      refine XS.dstore X29.here hx rfl (hb hby at_59) rfl (l' := #[.val (.int i0), .val (.int i1), .val (.int i2), .val (.int (own_m i0)), .val (.int (own_m i1)), .val (.int (own_m i2)), .val (.int (own_u (own_m i1) (own_m i0))), .val (.ref b2), .val (.ref b12), .val (.double (0 : UInt64)), .second, .unset, .unset, .unset, .unset]) rfl ?_
      show Steps p.tables e below (T29.setTop (mkF m 61 #[.val (.int i0), .val (.int i1), .val (.int i2), .val (.int (own_m i0)), .val (.int (own_m i1)), .val (.int (own_m i2)), .val (.int (own_u (own_m i1) (own_m i0))), .val (.ref b2), .val (.ref b12), .val (.double (0 : UInt64)), .second, .unset, .unset, .unset, .unset] [])) _
      refine XS.aload X29.here hx rfl (hb hby at_61) rfl rfl ?_
      exact kt
    obtain ⟨cq31, kq31, q31a, q31b, q31c⟩ := isOf hZ20 c29_0 f24
    obtain ⟨_, _, ⟨T31, L31, k31, n31⟩, -, X31, ⟨Lc31, hQ31, l31, y31, z31⟩, st31⟩ := X29.virtualBack hx (y := (⟨"com/example/headroom/headroom/ResourceUsage", "fraction", "()D"⟩ : MethodName)) (z := (⟨"com/example/headroom/headroom/ResourceUsage", "fraction", "()D"⟩ : MethodName)) hown20 (mvT hZ20 (hw _ (List.mem_of_getElem? (i := 40) rfl))) (mvT hZ20 (hw _ (List.mem_of_getElem? (i := 41) rfl))) (notFace_of_selects (args := #[]) (mvT hZ20 (hw _ (List.mem_of_getElem? (i := 43) rfl)))) (mvT hZ20 (hw _ (List.mem_of_getElem? (i := 43) rfl))) (mvT hZ20 (hw _ (List.mem_of_getElem? (i := 42) rfl))) (by decide) (backOf (W := 0) (rm7a l Z a0 hw [] b12 (FP.i2d (own_m i0)) T20.heap n0 Zs20 f26 (own_zero hz)) hZ20 (hw _ (List.mem_of_getElem? (i := 44) rfl)) (hw _ (List.mem_of_getElem? (i := 2) rfl)) (by decide) (by decide)) q31a q31c (g := (mkF m 63 #[.val (.int i0), .val (.int i1), .val (.int i2), .val (.int (own_m i0)), .val (.int (own_m i1)), .val (.int (own_m i2)), .val (.int (own_u (own_m i1) (own_m i0))), .val (.ref b2), .val (.ref b12), .val (.double (0 : UInt64)), .second, .unset, .unset, .unset, .unset] [(.ref b12)])) rfl (by rw [hml]; rfl) (Steps.refl _) (argsL := []) (rest := []) (lenOf pd_1 rfl) rfl (by show 2 * 0 + _ ≤ _; exact Nat.le_of_eq rfl) (hb hby at_63) (fun _ _ => ⟨rfl, c29_0, (by decide : 10 + 0 ≤ _), (by decide : 100 + 0 ≤ _)⟩)
    dsimp only [Pt.U, Pt.locs, Pt.cells, Pt.slots] at X31 l31 y31 z31 st31 hQ31
    subst l31 y31 z31
    obtain ⟨rfl, N31q, c31_0⟩ := hQ31
    have N31 := Fr.app N29 N31q
    have sg32 : ∀ target, Steps p.tables e below (T31.setTop (mkF m 91 #[.val (.int i0), .val (.int i1), .val (.int i2), .val (.int (own_m i0)), .val (.int (own_m i1)), .val (.int (own_m i2)), .val (.int (own_u (own_m i1) (own_m i0))), .val (.ref b2), .val (.ref b12), .val (.double (0 : UInt64)), .second, .val (.double (0 : UInt64)), .second, .unset, .unset] [(.int (1 : Int32))])) target → Steps p.tables e below (T31.setTop (mkF m 66 #[.val (.int i0), .val (.int i1), .val (.int i2), .val (.int (own_m i0)), .val (.int (own_m i1)), .val (.int (own_m i2)), .val (.int (own_u (own_m i1) (own_m i0))), .val (.ref b2), .val (.ref b12), .val (.double (0 : UInt64)), .second, .unset, .unset, .unset, .unset] [(.double (0 : UInt64))])) target := by
      intro target kt
      show Steps p.tables e below (T31.setTop (mkF m 66 #[.val (.int i0), .val (.int i1), .val (.int i2), .val (.int (own_m i0)), .val (.int (own_m i1)), .val (.int (own_m i2)), .val (.int (own_u (own_m i1) (own_m i0))), .val (.ref b2), .val (.ref b12), .val (.double (0 : UInt64)), .second, .unset, .unset, .unset, .unset] [(.double (0 : UInt64))])) _
      refine XS.dstore X31.here hx rfl (hb hby at_66) rfl (l' := #[.val (.int i0), .val (.int i1), .val (.int i2), .val (.int (own_m i0)), .val (.int (own_m i1)), .val (.int (own_m i2)), .val (.int (own_u (own_m i1) (own_m i0))), .val (.ref b2), .val (.ref b12), .val (.double (0 : UInt64)), .second, .val (.double (0 : UInt64)), .second, .unset, .unset]) rfl ?_
      show Steps p.tables e below (T31.setTop (mkF m 68 #[.val (.int i0), .val (.int i1), .val (.int i2), .val (.int (own_m i0)), .val (.int (own_m i1)), .val (.int (own_m i2)), .val (.int (own_u (own_m i1) (own_m i0))), .val (.ref b2), .val (.ref b12), .val (.double (0 : UInt64)), .second, .val (.double (0 : UInt64)), .second, .unset, .unset] [])) _
      refine XS.iloadN X31.here hx rfl (hb hby at_68) rfl ?_
      show Steps p.tables e below (T31.setTop (mkF m 69 #[.val (.int i0), .val (.int i1), .val (.int i2), .val (.int (own_m i0)), .val (.int (own_m i1)), .val (.int (own_m i2)), .val (.int (own_u (own_m i1) (own_m i0))), .val (.ref b2), .val (.ref b12), .val (.double (0 : UInt64)), .second, .val (.double (0 : UInt64)), .second, .unset, .unset] [(.int (own_m i0))])) _
      refine XS.ifNo X31.here hx rfl (hb hby at_69) rfl ((if0 _ _).trans (teq (hz : (own_m i0) = (0 : Int32))).2) ?_
      show Steps p.tables e below (T31.setTop (mkF m 72 #[.val (.int i0), .val (.int i1), .val (.int i2), .val (.int (own_m i0)), .val (.int (own_m i1)), .val (.int (own_m i2)), .val (.int (own_u (own_m i1) (own_m i0))), .val (.ref b2), .val (.ref b12), .val (.double (0 : UInt64)), .second, .val (.double (0 : UInt64)), .second, .unset, .unset] [])) _
      refine XS.dload X31.here hx rfl (hb hby at_72) rfl ?_
      show Steps p.tables e below (T31.setTop (mkF m 74 #[.val (.int i0), .val (.int i1), .val (.int i2), .val (.int (own_m i0)), .val (.int (own_m i1)), .val (.int (own_m i2)), .val (.int (own_u (own_m i1) (own_m i0))), .val (.ref b2), .val (.ref b12), .val (.double (0 : UInt64)), .second, .val (.double (0 : UInt64)), .second, .unset, .unset] [(.double (0 : UInt64))])) _
      refine XS.dconst0 X31.here hx rfl (v := (0 : UInt64)) (hb hby at_74) rfl ?_
      show Steps p.tables e below (T31.setTop (mkF m 75 #[.val (.int i0), .val (.int i1), .val (.int i2), .val (.int (own_m i0)), .val (.int (own_m i1)), .val (.int (own_m i2)), .val (.int (own_u (own_m i1) (own_m i0))), .val (.ref b2), .val (.ref b12), .val (.double (0 : UInt64)), .second, .val (.double (0 : UInt64)), .second, .unset, .unset] [(.double (0 : UInt64)), (.double (0 : UInt64))])) _
      refine XS.dcmpS X31.here hx rfl (v := (0 : Int32)) (hb hby at_75) rfl (by decide +kernel) ?_
      show Steps p.tables e below (T31.setTop (mkF m 76 #[.val (.int i0), .val (.int i1), .val (.int i2), .val (.int (own_m i0)), .val (.int (own_m i1)), .val (.int (own_m i2)), .val (.int (own_u (own_m i1) (own_m i0))), .val (.ref b2), .val (.ref b12), .val (.double (0 : UInt64)), .second, .val (.double (0 : UInt64)), .second, .unset, .unset] [(.int (0 : Int32))])) _
      refine XS.ifNo X31.here hx rfl (hb hby at_76) rfl ((if0 _ _).trans (teq (by decide : (0 : Int32) = (0 : Int32))).2) ?_
      show Steps p.tables e below (T31.setTop (mkF m 79 #[.val (.int i0), .val (.int i1), .val (.int i2), .val (.int (own_m i0)), .val (.int (own_m i1)), .val (.int (own_m i2)), .val (.int (own_u (own_m i1) (own_m i0))), .val (.ref b2), .val (.ref b12), .val (.double (0 : UInt64)), .second, .val (.double (0 : UInt64)), .second, .unset, .unset] [])) _
      refine XS.dload X31.here hx rfl (hb hby at_79) rfl ?_
      show Steps p.tables e below (T31.setTop (mkF m 81 #[.val (.int i0), .val (.int i1), .val (.int i2), .val (.int (own_m i0)), .val (.int (own_m i1)), .val (.int (own_m i2)), .val (.int (own_u (own_m i1) (own_m i0))), .val (.ref b2), .val (.ref b12), .val (.double (0 : UInt64)), .second, .val (.double (0 : UInt64)), .second, .unset, .unset] [(.double (0 : UInt64))])) _
      refine XS.dconst0 X31.here hx rfl (v := (0 : UInt64)) (hb hby at_81) rfl ?_
      show Steps p.tables e below (T31.setTop (mkF m 82 #[.val (.int i0), .val (.int i1), .val (.int i2), .val (.int (own_m i0)), .val (.int (own_m i1)), .val (.int (own_m i2)), .val (.int (own_u (own_m i1) (own_m i0))), .val (.ref b2), .val (.ref b12), .val (.double (0 : UInt64)), .second, .val (.double (0 : UInt64)), .second, .unset, .unset] [(.double (0 : UInt64)), (.double (0 : UInt64))])) _
      refine XS.dcmpS X31.here hx rfl (v := (0 : Int32)) (hb hby at_82) rfl (by decide +kernel) ?_
      show Steps p.tables e below (T31.setTop (mkF m 83 #[.val (.int i0), .val (.int i1), .val (.int i2), .val (.int (own_m i0)), .val (.int (own_m i1)), .val (.int (own_m i2)), .val (.int (own_u (own_m i1) (own_m i0))), .val (.ref b2), .val (.ref b12), .val (.double (0 : UInt64)), .second, .val (.double (0 : UInt64)), .second, .unset, .unset] [(.int (0 : Int32))])) _
      refine XS.ifNo X31.here hx rfl (hb hby at_83) rfl ((if0 _ _).trans (teq (by decide : (0 : Int32) = (0 : Int32))).2) ?_
      show Steps p.tables e below (T31.setTop (mkF m 86 #[.val (.int i0), .val (.int i1), .val (.int i2), .val (.int (own_m i0)), .val (.int (own_m i1)), .val (.int (own_m i2)), .val (.int (own_u (own_m i1) (own_m i0))), .val (.ref b2), .val (.ref b12), .val (.double (0 : UInt64)), .second, .val (.double (0 : UInt64)), .second, .unset, .unset] [])) _
      refine XS.iconst X31.here hx rfl (hb hby at_86) ?_
      show Steps p.tables e below (T31.setTop (mkF m 87 #[.val (.int i0), .val (.int i1), .val (.int i2), .val (.int (own_m i0)), .val (.int (own_m i1)), .val (.int (own_m i2)), .val (.int (own_u (own_m i1) (own_m i0))), .val (.ref b2), .val (.ref b12), .val (.double (0 : UInt64)), .second, .val (.double (0 : UInt64)), .second, .unset, .unset] [(.int (1 : Int32))])) _
      refine XS.goto X31.here hx rfl (pc0 := 87) (pc' := 91) rfl (hb hby at_87) (by decide) (by decide) ?_
      exact kt
    obtain ⟨fs, hr, hrun, hended, hWE⟩ := Stand.leaveW (s := s) (vm₁ := T20.vm) X31 hS20 (by rw [c31_0]; exact (Nat.le_refl _)) (v := some (.int (1 : Int32))) (fun h => by rw [Bd.returns] at h; cases h)
    refine ⟨_, _, pre0 _ ?_, hrun, hended, _, _, rfl, ?_, hWE.1, hWE.2.1, hWE.2.2.1, hWE.2.2.2.mono (by decide) (by decide)⟩
    · show Steps p.tables e below (s₁.setTop (mkF m 0 #[.val (.int i0), .val (.int i1), .val (.int i2), .unset, .unset, .unset, .unset, .unset, .unset, .unset, .unset, .unset, .unset, .unset, .unset] [])) _
      refine sg1 _ ?_
      refine st2 _ ?_
      refine sg6 _ ?_
      refine st7.trans ?_
      refine sg11 _ ?_
      refine st12 _ ?_
      refine sg19 _ ?_
      refine st20.trans ?_
      refine sg27 _ ?_
      refine sg28 _ ?_
      refine st29.trans ?_
      refine sg30 _ ?_
      refine st31.trans ?_
      refine sg32 _ ?_
      show Steps p.tables e below (T31.setTop (mkF m 91 #[.val (.int i0), .val (.int i1), .val (.int i2), .val (.int (own_m i0)), .val (.int (own_m i1)), .val (.int (own_m i2)), .val (.int (own_u (own_m i1) (own_m i0))), .val (.ref b2), .val (.ref b12), .val (.double (0 : UInt64)), .second, .val (.double (0 : UInt64)), .second, .unset, .unset] [(.int (1 : Int32))])) _
      exact retN X31 hx (t := .boolean) Bd.returns (by simp) (hb hby at_91) hr
    · show Q_rm0 Z i0 i1 i2 h0 n0 _ T31.heap _
      rw [c31_0]
      exact ⟨rfl, N31⟩
  · have hl := own_posm hz
    have sg33 : ∀ target, Steps p.tables e below (T20.setTop (mkF m 56 #[.val (.int i0), .val (.int i1), .val (.int i2), .val (.int (own_m i0)), .val (.int (own_m i1)), .val (.int (own_m i2)), .val (.int (own_u (own_m i1) (own_m i0))), .val (.ref b2), .val (.ref b12), .unset, .unset, .unset, .unset, .unset, .unset] [(.ref b2)])) target → Steps p.tables e below (T20.setTop (mkF m 54 #[.val (.int i0), .val (.int i1), .val (.int i2), .val (.int (own_m i0)), .val (.int (own_m i1)), .val (.int (own_m i2)), .val (.int (own_u (own_m i1) (own_m i0))), .val (.ref b2), .val (.ref b12), .unset, .unset, .unset, .unset, .unset, .unset] [])) target := by
      intro target kt
      show Steps p.tables e below (T20.setTop (mkF m 54 #[.val (.int i0), .val (.int i1), .val (.int i2), .val (.int (own_m i0)), .val (.int (own_m i1)), .val (.int (own_m i2)), .val (.int (own_u (own_m i1) (own_m i0))), .val (.ref b2), .val (.ref b12), .unset, .unset, .unset, .unset, .unset, .unset] [])) _
      refine XS.aload X20r.here hx rfl (hb hby at_54) rfl rfl ?_
      exact kt
    obtain ⟨cq34, kq34, q34a, q34b, q34c⟩ := isOf hZ20 rfl f21
    obtain ⟨_, _, ⟨T34, L34, k34, n34⟩, -, X34, ⟨Lc34, hQ34, l34, y34, z34⟩, st34⟩ := X20r.virtualBack hx (y := (⟨"com/example/headroom/headroom/ResourceUsage", "fraction", "()D"⟩ : MethodName)) (z := (⟨"com/example/headroom/headroom/ResourceUsage", "fraction", "()D"⟩ : MethodName)) hown20 (mvT hZ20 (hw _ (List.mem_of_getElem? (i := 40) rfl))) (mvT hZ20 (hw _ (List.mem_of_getElem? (i := 41) rfl))) (notFace_of_selects (args := #[]) (mvT hZ20 (hw _ (List.mem_of_getElem? (i := 43) rfl)))) (mvT hZ20 (hw _ (List.mem_of_getElem? (i := 43) rfl))) (mvT hZ20 (hw _ (List.mem_of_getElem? (i := 42) rfl))) (by decide) (backOf (W := 0) (rm7b l Z a0 hw [] b2 (FP.i2d (own_u (own_m i1) (own_m i0))) (FP.i2d (own_m i0)) T20.heap n0 Zs20 f22 f23 (own_nz hl) (own_dn hl)) hZ20 (hw _ (List.mem_of_getElem? (i := 44) rfl)) (hw _ (List.mem_of_getElem? (i := 2) rfl)) (by decide) (by decide)) q34a q34c (g := (mkF m 56 #[.val (.int i0), .val (.int i1), .val (.int i2), .val (.int (own_m i0)), .val (.int (own_m i1)), .val (.int (own_m i2)), .val (.int (own_u (own_m i1) (own_m i0))), .val (.ref b2), .val (.ref b12), .unset, .unset, .unset, .unset, .unset, .unset] [(.ref b2)])) rfl (by rw [hml]; rfl) (Steps.refl _) (argsL := []) (rest := []) (lenOf pd_1 rfl) rfl (by show 2 * 0 + _ ≤ _; exact Nat.le_of_eq rfl) (hb hby at_56) (fun _ _ => ⟨rfl, rfl, (by decide : 10 + 0 ≤ _), (by decide : 100 + 0 ≤ _)⟩)
    dsimp only [Pt.U, Pt.locs, Pt.cells, Pt.slots] at X34 l34 y34 z34 st34 hQ34
    subst l34 y34 z34
    obtain ⟨rfl, N34q, c34_0⟩ := hQ34
    have N34 := Fr.app N20 N34q
    have sg35 : ∀ target, Steps p.tables e below (T34.setTop (mkF m 63 #[.val (.int i0), .val (.int i1), .val (.int i2), .val (.int (own_m i0)), .val (.int (own_m i1)), .val (.int (own_m i2)), .val (.int (own_u (own_m i1) (own_m i0))), .val (.ref b2), .val (.ref b12), .val (.double (FP.ddiv (FP.i2d (own_u (own_m i1) (own_m i0))) (FP.i2d (own_m i0)))), .second, .unset, .unset, .unset, .unset] [(.ref b12)])) target → Steps p.tables e below (T34.setTop (mkF m 59 #[.val (.int i0), .val (.int i1), .val (.int i2), .val (.int (own_m i0)), .val (.int (own_m i1)), .val (.int (own_m i2)), .val (.int (own_u (own_m i1) (own_m i0))), .val (.ref b2), .val (.ref b12), .unset, .unset, .unset, .unset, .unset, .unset] [(.double (FP.ddiv (FP.i2d (own_u (own_m i1) (own_m i0))) (FP.i2d (own_m i0))))])) target := by
      intro target kt
      show Steps p.tables e below (T34.setTop (mkF m 59 #[.val (.int i0), .val (.int i1), .val (.int i2), .val (.int (own_m i0)), .val (.int (own_m i1)), .val (.int (own_m i2)), .val (.int (own_u (own_m i1) (own_m i0))), .val (.ref b2), .val (.ref b12), .unset, .unset, .unset, .unset, .unset, .unset] [(.double (FP.ddiv (FP.i2d (own_u (own_m i1) (own_m i0))) (FP.i2d (own_m i0))))])) _
      refine XS.dstore X34.here hx rfl (hb hby at_59) rfl (l' := #[.val (.int i0), .val (.int i1), .val (.int i2), .val (.int (own_m i0)), .val (.int (own_m i1)), .val (.int (own_m i2)), .val (.int (own_u (own_m i1) (own_m i0))), .val (.ref b2), .val (.ref b12), .val (.double (FP.ddiv (FP.i2d (own_u (own_m i1) (own_m i0))) (FP.i2d (own_m i0)))), .second, .unset, .unset, .unset, .unset]) rfl ?_
      show Steps p.tables e below (T34.setTop (mkF m 61 #[.val (.int i0), .val (.int i1), .val (.int i2), .val (.int (own_m i0)), .val (.int (own_m i1)), .val (.int (own_m i2)), .val (.int (own_u (own_m i1) (own_m i0))), .val (.ref b2), .val (.ref b12), .val (.double (FP.ddiv (FP.i2d (own_u (own_m i1) (own_m i0))) (FP.i2d (own_m i0)))), .second, .unset, .unset, .unset, .unset] [])) _
      refine XS.aload X34.here hx rfl (hb hby at_61) rfl rfl ?_
      exact kt
    obtain ⟨cq36, kq36, q36a, q36b, q36c⟩ := isOf hZ20 c34_0 f24
    obtain ⟨_, _, ⟨T36, L36, k36, n36⟩, -, X36, ⟨Lc36, hQ36, l36, y36, z36⟩, st36⟩ := X34.virtualBack hx (y := (⟨"com/example/headroom/headroom/ResourceUsage", "fraction", "()D"⟩ : MethodName)) (z := (⟨"com/example/headroom/headroom/ResourceUsage", "fraction", "()D"⟩ : MethodName)) hown20 (mvT hZ20 (hw _ (List.mem_of_getElem? (i := 40) rfl))) (mvT hZ20 (hw _ (List.mem_of_getElem? (i := 41) rfl))) (notFace_of_selects (args := #[]) (mvT hZ20 (hw _ (List.mem_of_getElem? (i := 43) rfl)))) (mvT hZ20 (hw _ (List.mem_of_getElem? (i := 43) rfl))) (mvT hZ20 (hw _ (List.mem_of_getElem? (i := 42) rfl))) (by decide) (backOf (W := 0) (rm7b l Z a0 hw [] b12 (FP.i2d (own_m i2)) (FP.i2d (own_m i0)) T20.heap n0 Zs20 f25 f26 (own_nz hl) (own_dn hl)) hZ20 (hw _ (List.mem_of_getElem? (i := 44) rfl)) (hw _ (List.mem_of_getElem? (i := 2) rfl)) (by decide) (by decide)) q36a q36c (g := (mkF m 63 #[.val (.int i0), .val (.int i1), .val (.int i2), .val (.int (own_m i0)), .val (.int (own_m i1)), .val (.int (own_m i2)), .val (.int (own_u (own_m i1) (own_m i0))), .val (.ref b2), .val (.ref b12), .val (.double (FP.ddiv (FP.i2d (own_u (own_m i1) (own_m i0))) (FP.i2d (own_m i0)))), .second, .unset, .unset, .unset, .unset] [(.ref b12)])) rfl (by rw [hml]; rfl) (Steps.refl _) (argsL := []) (rest := []) (lenOf pd_1 rfl) rfl (by show 2 * 0 + _ ≤ _; exact Nat.le_of_eq rfl) (hb hby at_63) (fun _ _ => ⟨rfl, c34_0, (by decide : 10 + 0 ≤ _), (by decide : 100 + 0 ≤ _)⟩)
    dsimp only [Pt.U, Pt.locs, Pt.cells, Pt.slots] at X36 l36 y36 z36 st36 hQ36
    subst l36 y36 z36
    obtain ⟨rfl, N36q, c36_0⟩ := hQ36
    have N36 := Fr.app N34 N36q
    have sg37 : ∀ target, Steps p.tables e below (T36.setTop (mkF m 111 #[.val (.int i0), .val (.int i1), .val (.int i2), .val (.int (own_m i0)), .val (.int (own_m i1)), .val (.int (own_m i2)), .val (.int (own_u (own_m i1) (own_m i0))), .val (.ref b2), .val (.ref b12), .val (.double (FP.ddiv (FP.i2d (own_u (own_m i1) (own_m i0))) (FP.i2d (own_m i0)))), .second, .val (.double (FP.ddiv (FP.i2d (own_m i2)) (FP.i2d (own_m i0)))), .second, .val (.int (1 : Int32)), .unset] [(.int (own_m i0)), (.int (own_m i2))])) target → Steps p.tables e below (T36.setTop (mkF m 66 #[.val (.int i0), .val (.int i1), .val (.int i2), .val (.int (own_m i0)), .val (.int (own_m i1)), .val (.int (own_m i2)), .val (.int (own_u (own_m i1) (own_m i0))), .val (.ref b2), .val (.ref b12), .val (.double (FP.ddiv (FP.i2d (own_u (own_m i1) (own_m i0))) (FP.i2d (own_m i0)))), .second, .unset, .unset, .unset, .unset] [(.double (FP.ddiv (FP.i2d (own_m i2)) (FP.i2d (own_m i0))))])) target := by
      intro target kt
      show Steps p.tables e below (T36.setTop (mkF m 66 #[.val (.int i0), .val (.int i1), .val (.int i2), .val (.int (own_m i0)), .val (.int (own_m i1)), .val (.int (own_m i2)), .val (.int (own_u (own_m i1) (own_m i0))), .val (.ref b2), .val (.ref b12), .val (.double (FP.ddiv (FP.i2d (own_u (own_m i1) (own_m i0))) (FP.i2d (own_m i0)))), .second, .unset, .unset, .unset, .unset] [(.double (FP.ddiv (FP.i2d (own_m i2)) (FP.i2d (own_m i0))))])) _
      refine XS.dstore X36.here hx rfl (hb hby at_66) rfl (l' := #[.val (.int i0), .val (.int i1), .val (.int i2), .val (.int (own_m i0)), .val (.int (own_m i1)), .val (.int (own_m i2)), .val (.int (own_u (own_m i1) (own_m i0))), .val (.ref b2), .val (.ref b12), .val (.double (FP.ddiv (FP.i2d (own_u (own_m i1) (own_m i0))) (FP.i2d (own_m i0)))), .second, .val (.double (FP.ddiv (FP.i2d (own_m i2)) (FP.i2d (own_m i0)))), .second, .unset, .unset]) rfl ?_
      show Steps p.tables e below (T36.setTop (mkF m 68 #[.val (.int i0), .val (.int i1), .val (.int i2), .val (.int (own_m i0)), .val (.int (own_m i1)), .val (.int (own_m i2)), .val (.int (own_u (own_m i1) (own_m i0))), .val (.ref b2), .val (.ref b12), .val (.double (FP.ddiv (FP.i2d (own_u (own_m i1) (own_m i0))) (FP.i2d (own_m i0)))), .second, .val (.double (FP.ddiv (FP.i2d (own_m i2)) (FP.i2d (own_m i0)))), .second, .unset, .unset] [])) _
      refine XS.iloadN X36.here hx rfl (hb hby at_68) rfl ?_
      show Steps p.tables e below (T36.setTop (mkF m 69 #[.val (.int i0), .val (.int i1), .val (.int i2), .val (.int (own_m i0)), .val (.int (own_m i1)), .val (.int (own_m i2)), .val (.int (own_u (own_m i1) (own_m i0))), .val (.ref b2), .val (.ref b12), .val (.double (FP.ddiv (FP.i2d (own_u (own_m i1) (own_m i0))) (FP.i2d (own_m i0)))), .second, .val (.double (FP.ddiv (FP.i2d (own_m i2)) (FP.i2d (own_m i0)))), .second, .unset, .unset] [(.int (own_m i0))])) _
      refine XS.ifYes X36.here hx rfl (pc0 := 69) (pc' := 92) rfl (hb hby at_69) rfl ((if0 _ _).trans (feq (hz : ¬ ((own_m i0) = (0 : Int32)))).2) (by decide) (by decide) ?_
      show Steps p.tables e below (T36.setTop (mkF m 92 #[.val (.int i0), .val (.int i1), .val (.int i2), .val (.int (own_m i0)), .val (.int (own_m i1)), .val (.int (own_m i2)), .val (.int (own_u (own_m i1) (own_m i0))), .val (.ref b2), .val (.ref b12), .val (.double (FP.ddiv (FP.i2d (own_u (own_m i1) (own_m i0))) (FP.i2d (own_m i0)))), .second, .val (.double (FP.ddiv (FP.i2d (own_m i2)) (FP.i2d (own_m i0)))), .second, .unset, .unset] [])) _
      refine XS.dload X36.here hx rfl (hb hby at_92) rfl ?_
      show Steps p.tables e below (T36.setTop (mkF m 94 #[.val (.int i0), .val (.int i1), .val (.int i2), .val (.int (own_m i0)), .val (.int (own_m i1)), .val (.int (own_m i2)), .val (.int (own_u (own_m i1) (own_m i0))), .val (.ref b2), .val (.ref b12), .val (.double (FP.ddiv (FP.i2d (own_u (own_m i1) (own_m i0))) (FP.i2d (own_m i0)))), .second, .val (.double (FP.ddiv (FP.i2d (own_m i2)) (FP.i2d (own_m i0)))), .second, .unset, .unset] [(.double (FP.ddiv (FP.i2d (own_u (own_m i1) (own_m i0))) (FP.i2d (own_m i0))))])) _
      refine XS.iload X36.here hx rfl (hb hby at_94) rfl ?_
      show Steps p.tables e below (T36.setTop (mkF m 96 #[.val (.int i0), .val (.int i1), .val (.int i2), .val (.int (own_m i0)), .val (.int (own_m i1)), .val (.int (own_m i2)), .val (.int (own_u (own_m i1) (own_m i0))), .val (.ref b2), .val (.ref b12), .val (.double (FP.ddiv (FP.i2d (own_u (own_m i1) (own_m i0))) (FP.i2d (own_m i0)))), .second, .val (.double (FP.ddiv (FP.i2d (own_m i2)) (FP.i2d (own_m i0)))), .second, .unset, .unset] [(.int (own_m i1)), (.double (FP.ddiv (FP.i2d (own_u (own_m i1) (own_m i0))) (FP.i2d (own_m i0))))])) _
      refine XS.i2dS X36.here hx rfl (v := (FP.i2d (own_m i1))) (hb hby at_96) rfl rfl ?_
      show Steps p.tables e below (T36.setTop (mkF m 97 #[.val (.int i0), .val (.int i1), .val (.int i2), .val (.int (own_m i0)), .val (.int (own_m i1)), .val (.int (own_m i2)), .val (.int (own_u (own_m i1) (own_m i0))), .val (.ref b2), .val (.ref b12), .val (.double (FP.ddiv (FP.i2d (own_u (own_m i1) (own_m i0))) (FP.i2d (own_m i0)))), .second, .val (.double (FP.ddiv (FP.i2d (own_m i2)) (FP.i2d (own_m i0)))), .second, .unset, .unset] [(.double (FP.i2d (own_m i1))), (.double (FP.ddiv (FP.i2d (own_u (own_m i1) (own_m i0))) (FP.i2d (own_m i0))))])) _
      refine XS.dcmpS X36.here hx rfl (v := (0 : Int32)) (hb hby at_97) rfl (own_exact (own_m_rng i1) ⟨hl, (own_m_rng i0).2⟩) ?_
      show Steps p.tables e below (T36.setTop (mkF m 98 #[.val (.int i0), .val (.int i1), .val (.int i2), .val (.int (own_m i0)), .val (.int (own_m i1)), .val (.int (own_m i2)), .val (.int (own_u (own_m i1) (own_m i0))), .val (.ref b2), .val (.ref b12), .val (.double (FP.ddiv (FP.i2d (own_u (own_m i1) (own_m i0))) (FP.i2d (own_m i0)))), .second, .val (.double (FP.ddiv (FP.i2d (own_m i2)) (FP.i2d (own_m i0)))), .second, .unset, .unset] [(.int (0 : Int32))])) _
      refine XS.ifNo X36.here hx rfl (hb hby at_98) rfl ((if0 _ _).trans (teq (by decide : (0 : Int32) = (0 : Int32))).2) ?_
      show Steps p.tables e below (T36.setTop (mkF m 101 #[.val (.int i0), .val (.int i1), .val (.int i2), .val (.int (own_m i0)), .val (.int (own_m i1)), .val (.int (own_m i2)), .val (.int (own_u (own_m i1) (own_m i0))), .val (.ref b2), .val (.ref b12), .val (.double (FP.ddiv (FP.i2d (own_u (own_m i1) (own_m i0))) (FP.i2d (own_m i0)))), .second, .val (.double (FP.ddiv (FP.i2d (own_m i2)) (FP.i2d (own_m i0)))), .second, .unset, .unset] [])) _
      refine XS.iconst X36.here hx rfl (hb hby at_101) ?_
      show Steps p.tables e below (T36.setTop (mkF m 102 #[.val (.int i0), .val (.int i1), .val (.int i2), .val (.int (own_m i0)), .val (.int (own_m i1)), .val (.int (own_m i2)), .val (.int (own_u (own_m i1) (own_m i0))), .val (.ref b2), .val (.ref b12), .val (.double (FP.ddiv (FP.i2d (own_u (own_m i1) (own_m i0))) (FP.i2d (own_m i0)))), .second, .val (.double (FP.ddiv (FP.i2d (own_m i2)) (FP.i2d (own_m i0)))), .second, .unset, .unset] [(.int (1 : Int32))])) _
      refine XS.goto X36.here hx rfl (pc0 := 102) (pc' := 106) rfl (hb hby at_102) (by decide) (by decide) ?_
      show Steps p.tables e below (T36.setTop (mkF m 106 #[.val (.int i0), .val (.int i1), .val (.int i2), .val (.int (own_m i0)), .val (.int (own_m i1)), .val (.int (own_m i2)), .val (.int (own_u (own_m i1) (own_m i0))), .val (.ref b2), .val (.ref b12), .val (.double (FP.ddiv (FP.i2d (own_u (own_m i1) (own_m i0))) (FP.i2d (own_m i0)))), .second, .val (.double (FP.ddiv (FP.i2d (own_m i2)) (FP.i2d (own_m i0)))), .second, .unset, .unset] [(.int (1 : Int32))])) _
      refine XS.istore X36.here hx rfl (hb hby at_106) rfl (l' := #[.val (.int i0), .val (.int i1), .val (.int i2), .val (.int (own_m i0)), .val (.int (own_m i1)), .val (.int (own_m i2)), .val (.int (own_u (own_m i1) (own_m i0))), .val (.ref b2), .val (.ref b12), .val (.double (FP.ddiv (FP.i2d (own_u (own_m i1) (own_m i0))) (FP.i2d (own_m i0)))), .second, .val (.double (FP.ddiv (FP.i2d (own_m i2)) (FP.i2d (own_m i0)))), .second, .val (.int (1 : Int32)), .unset]) rfl ?_
      show Steps p.tables e below (T36.setTop (mkF m 108 #[.val (.int i0), .val (.int i1), .val (.int i2), .val (.int (own_m i0)), .val (.int (own_m i1)), .val (.int (own_m i2)), .val (.int (own_u (own_m i1) (own_m i0))), .val (.ref b2), .val (.ref b12), .val (.double (FP.ddiv (FP.i2d (own_u (own_m i1) (own_m i0))) (FP.i2d (own_m i0)))), .second, .val (.double (FP.ddiv (FP.i2d (own_m i2)) (FP.i2d (own_m i0)))), .second, .val (.int (1 : Int32)), .unset] [])) _
      refine XS.iload X36.here hx rfl (hb hby at_108) rfl ?_
      show Steps p.tables e below (T36.setTop (mkF m 110 #[.val (.int i0), .val (.int i1), .val (.int i2), .val (.int (own_m i0)), .val (.int (own_m i1)), .val (.int (own_m i2)), .val (.int (own_u (own_m i1) (own_m i0))), .val (.ref b2), .val (.ref b12), .val (.double (FP.ddiv (FP.i2d (own_u (own_m i1) (own_m i0))) (FP.i2d (own_m i0)))), .second, .val (.double (FP.ddiv (FP.i2d (own_m i2)) (FP.i2d (own_m i0)))), .second, .val (.int (1 : Int32)), .unset] [(.int (own_m i2))])) _
      refine XS.iloadN X36.here hx rfl (hb hby at_110) rfl ?_
      exact kt
    by_cases h1 : (own_m i2) < (own_m i0)
    · have sg38 : ∀ target, Steps p.tables e below (T36.setTop (mkF m 190 #[.val (.int i0), .val (.int i1), .val (.int i2), .val (.int (own_m i0)), .val (.int (own_m i1)), .val (.int (own_m i2)), .val (.int (own_u (own_m i1) (own_m i0))), .val (.ref b2), .val (.ref b12), .val (.double (FP.ddiv (FP.i2d (own_u (own_m i1) (own_m i0))) (FP.i2d (own_m i0)))), .second, .val (.double (FP.ddiv (FP.i2d (own_m i2)) (FP.i2d (own_m i0)))), .second, .val (.int (1 : Int32)), .val (.int (1 : Int32))] [(.int (1 : Int32))])) target → Steps p.tables e below (T36.setTop (mkF m 111 #[.val (.int i0), .val (.int i1), .val (.int i2), .val (.int (own_m i0)), .val (.int (own_m i1)), .val (.int (own_m i2)), .val (.int (own_u (own_m i1) (own_m i0))), .val (.ref b2), .val (.ref b12), .val (.double (FP.ddiv (FP.i2d (own_u (own_m i1) (own_m i0))) (FP.i2d (own_m i0)))), .second, .val (.double (FP.ddiv (FP.i2d (own_m i2)) (FP.i2d (own_m i0)))), .second, .val (.int (1 : Int32)), .unset] [(.int (own_m i0)), (.int (own_m i2))])) target := by
        intro target kt
        show Steps p.tables e below (T36.setTop (mkF m 111 #[.val (.int i0), .val (.int i1), .val (.int i2), .val (.int (own_m i0)), .val (.int (own_m i1)), .val (.int (own_m i2)), .val (.int (own_u (own_m i1) (own_m i0))), .val (.ref b2), .val (.ref b12), .val (.double (FP.ddiv (FP.i2d (own_u (own_m i1) (own_m i0))) (FP.i2d (own_m i0)))), .second, .val (.double (FP.ddiv (FP.i2d (own_m i2)) (FP.i2d (own_m i0)))), .second, .val (.int (1 : Int32)), .unset] [(.int (own_m i0)), (.int (own_m i2))])) _
        refine XS.icmpNo X36.here hx rfl (hb hby at_111) rfl (tlt (h1 : (own_m i2) < (own_m i0))).2.1 ?_
        show Steps p.tables e below (T36.setTop (mkF m 114 #[.val (.int i0), .val (.int i1), .val (.int i2), .val (.int (own_m i0)), .val (.int (own_m i1)), .val (.int (own_m i2)), .val (.int (own_u (own_m i1) (own_m i0))), .val (.ref b2), .val (.ref b12), .val (.double (FP.ddiv (FP.i2d (own_u (own_m i1) (own_m i0))) (FP.i2d (own_m i0)))), .second, .val (.double (FP.ddiv (FP.i2d (own_m i2)) (FP.i2d (own_m i0)))), .second, .val (.int (1 : Int32)), .unset] [])) _
        refine XS.dload X36.here hx rfl (hb hby at_114) rfl ?_
        show Steps p.tables e below (T36.setTop (mkF m 116 #[.val (.int i0), .val (.int i1), .val (.int i2), .val (.int (own_m i0)), .val (.int (own_m i1)), .val (.int (own_m i2)), .val (.int (own_u (own_m i1) (own_m i0))), .val (.ref b2), .val (.ref b12), .val (.double (FP.ddiv (FP.i2d (own_u (own_m i1) (own_m i0))) (FP.i2d (own_m i0)))), .second, .val (.double (FP.ddiv (FP.i2d (own_m i2)) (FP.i2d (own_m i0)))), .second, .val (.int (1 : Int32)), .unset] [(.double (FP.ddiv (FP.i2d (own_m i2)) (FP.i2d (own_m i0))))])) _
        refine XS.dconst1 X36.here hx rfl (v := (4607182418800017408 : UInt64)) (hb hby at_116) rfl ?_
        show Steps p.tables e below (T36.setTop (mkF m 117 #[.val (.int i0), .val (.int i1), .val (.int i2), .val (.int (own_m i0)), .val (.int (own_m i1)), .val (.int (own_m i2)), .val (.int (own_u (own_m i1) (own_m i0))), .val (.ref b2), .val (.ref b12), .val (.double (FP.ddiv (FP.i2d (own_u (own_m i1) (own_m i0))) (FP.i2d (own_m i0)))), .second, .val (.double (FP.ddiv (FP.i2d (own_m i2)) (FP.i2d (own_m i0)))), .second, .val (.int (1 : Int32)), .unset] [(.double (4607182418800017408 : UInt64)), (.double (FP.ddiv (FP.i2d (own_m i2)) (FP.i2d (own_m i0))))])) _
        refine XS.dcmpS X36.here hx rfl (v := (-1 : Int32)) (hb hby at_117) rfl (own_less (own_m_rng i2).1 (own_m_rng i0).2 h1).1 ?_
        show Steps p.tables e below (T36.setTop (mkF m 118 #[.val (.int i0), .val (.int i1), .val (.int i2), .val (.int (own_m i0)), .val (.int (own_m i1)), .val (.int (own_m i2)), .val (.int (own_u (own_m i1) (own_m i0))), .val (.ref b2), .val (.ref b12), .val (.double (FP.ddiv (FP.i2d (own_u (own_m i1) (own_m i0))) (FP.i2d (own_m i0)))), .second, .val (.double (FP.ddiv (FP.i2d (own_m i2)) (FP.i2d (own_m i0)))), .second, .val (.int (1 : Int32)), .unset] [(.int (-1 : Int32))])) _
        refine XS.ifNo X36.here hx rfl (hb hby at_118) rfl ((if0 _ _).trans (tlt (by decide : (-1 : Int32) < (0 : Int32))).2.1) ?_
        show Steps p.tables e below (T36.setTop (mkF m 121 #[.val (.int i0), .val (.int i1), .val (.int i2), .val (.int (own_m i0)), .val (.int (own_m i1)), .val (.int (own_m i2)), .val (.int (own_u (own_m i1) (own_m i0))), .val (.ref b2), .val (.ref b12), .val (.double (FP.ddiv (FP.i2d (own_u (own_m i1) (own_m i0))) (FP.i2d (own_m i0)))), .second, .val (.double (FP.ddiv (FP.i2d (own_m i2)) (FP.i2d (own_m i0)))), .second, .val (.int (1 : Int32)), .unset] [])) _
        refine XS.dload X36.here hx rfl (hb hby at_121) rfl ?_
        show Steps p.tables e below (T36.setTop (mkF m 123 #[.val (.int i0), .val (.int i1), .val (.int i2), .val (.int (own_m i0)), .val (.int (own_m i1)), .val (.int (own_m i2)), .val (.int (own_u (own_m i1) (own_m i0))), .val (.ref b2), .val (.ref b12), .val (.double (FP.ddiv (FP.i2d (own_u (own_m i1) (own_m i0))) (FP.i2d (own_m i0)))), .second, .val (.double (FP.ddiv (FP.i2d (own_m i2)) (FP.i2d (own_m i0)))), .second, .val (.int (1 : Int32)), .unset] [(.double (FP.ddiv (FP.i2d (own_m i2)) (FP.i2d (own_m i0))))])) _
        refine XS.dconst0 X36.here hx rfl (v := (0 : UInt64)) (hb hby at_123) rfl ?_
        show Steps p.tables e below (T36.setTop (mkF m 124 #[.val (.int i0), .val (.int i1), .val (.int i2), .val (.int (own_m i0)), .val (.int (own_m i1)), .val (.int (own_m i2)), .val (.int (own_u (own_m i1) (own_m i0))), .val (.ref b2), .val (.ref b12), .val (.double (FP.ddiv (FP.i2d (own_u (own_m i1) (own_m i0))) (FP.i2d (own_m i0)))), .second, .val (.double (FP.ddiv (FP.i2d (own_m i2)) (FP.i2d (own_m i0)))), .second, .val (.int (1 : Int32)), .unset] [(.double (0 : UInt64)), (.double (FP.ddiv (FP.i2d (own_m i2)) (FP.i2d (own_m i0))))])) _
        refine XS.dcmpS X36.here hx rfl (v := (cmpValue (FP.dcmp (FP.ddiv (FP.i2d (own_m i2)) (FP.i2d (own_m i0))) (0 : UInt64)) .g)) (hb hby at_124) rfl rfl ?_
        show Steps p.tables e below (T36.setTop (mkF m 125 #[.val (.int i0), .val (.int i1), .val (.int i2), .val (.int (own_m i0)), .val (.int (own_m i1)), .val (.int (own_m i2)), .val (.int (own_u (own_m i1) (own_m i0))), .val (.ref b2), .val (.ref b12), .val (.double (FP.ddiv (FP.i2d (own_u (own_m i1) (own_m i0))) (FP.i2d (own_m i0)))), .second, .val (.double (FP.ddiv (FP.i2d (own_m i2)) (FP.i2d (own_m i0)))), .second, .val (.int (1 : Int32)), .unset] [(.int (cmpValue (FP.dcmp (FP.ddiv (FP.i2d (own_m i2)) (FP.i2d (own_m i0))) (0 : UInt64)) .g))])) _
        refine XS.ifNo X36.here hx rfl (hb hby at_125) rfl ((if0 _ _).trans (flt ((own_less (own_m_rng i2).1 (own_m_rng i0).2 h1).2 : ¬ ((cmpValue (FP.dcmp (FP.ddiv (FP.i2d (own_m i2)) (FP.i2d (own_m i0))) (0 : UInt64)) .g) < (0 : Int32)))).1) ?_
        show Steps p.tables e below (T36.setTop (mkF m 128 #[.val (.int i0), .val (.int i1), .val (.int i2), .val (.int (own_m i0)), .val (.int (own_m i1)), .val (.int (own_m i2)), .val (.int (own_u (own_m i1) (own_m i0))), .val (.ref b2), .val (.ref b12), .val (.double (FP.ddiv (FP.i2d (own_u (own_m i1) (own_m i0))) (FP.i2d (own_m i0)))), .second, .val (.double (FP.ddiv (FP.i2d (own_m i2)) (FP.i2d (own_m i0)))), .second, .val (.int (1 : Int32)), .unset] [])) _
        refine XS.iconst X36.here hx rfl (hb hby at_128) ?_
        show Steps p.tables e below (T36.setTop (mkF m 129 #[.val (.int i0), .val (.int i1), .val (.int i2), .val (.int (own_m i0)), .val (.int (own_m i1)), .val (.int (own_m i2)), .val (.int (own_u (own_m i1) (own_m i0))), .val (.ref b2), .val (.ref b12), .val (.double (FP.ddiv (FP.i2d (own_u (own_m i1) (own_m i0))) (FP.i2d (own_m i0)))), .second, .val (.double (FP.ddiv (FP.i2d (own_m i2)) (FP.i2d (own_m i0)))), .second, .val (.int (1 : Int32)), .unset] [(.int (1 : Int32))])) _
        refine XS.goto X36.here hx rfl (pc0 := 129) (pc' := 133) rfl (hb hby at_129) (by decide) (by decide) ?_
        show Steps p.tables e below (T36.setTop (mkF m 133 #[.val (.int i0), .val (.int i1), .val (.int i2), .val (.int (own_m i0)), .val (.int (own_m i1)), .val (.int (own_m i2)), .val (.int (own_u (own_m i1) (own_m i0))), .val (.ref b2), .val (.ref b12), .val (.double (FP.ddiv (FP.i2d (own_u (own_m i1) (own_m i0))) (FP.i2d (own_m i0)))), .second, .val (.double (FP.ddiv (FP.i2d (own_m i2)) (FP.i2d (own_m i0)))), .second, .val (.int (1 : Int32)), .unset] [(.int (1 : Int32))])) _
        refine XS.istore X36.here hx rfl (hb hby at_133) rfl (l' := #[.val (.int i0), .val (.int i1), .val (.int i2), .val (.int (own_m i0)), .val (.int (own_m i1)), .val (.int (own_m i2)), .val (.int (own_u (own_m i1) (own_m i0))), .val (.ref b2), .val (.ref b12), .val (.double (FP.ddiv (FP.i2d (own_u (own_m i1) (own_m i0))) (FP.i2d (own_m i0)))), .second, .val (.double (FP.ddiv (FP.i2d (own_m i2)) (FP.i2d (own_m i0)))), .second, .val (.int (1 : Int32)), .val (.int (1 : Int32))]) rfl ?_
        show Steps p.tables e below (T36.setTop (mkF m 135 #[.val (.int i0), .val (.int i1), .val (.int i2), .val (.int (own_m i0)), .val (.int (own_m i1)), .val (.int (own_m i2)), .val (.int (own_u (own_m i1) (own_m i0))), .val (.ref b2), .val (.ref b12), .val (.double (FP.ddiv (FP.i2d (own_u (own_m i1) (own_m i0))) (FP.i2d (own_m i0)))), .second, .val (.double (FP.ddiv (FP.i2d (own_m i2)) (FP.i2d (own_m i0)))), .second, .val (.int (1 : Int32)), .val (.int (1 : Int32))] [])) _
        refine XS.goto X36.here hx rfl (pc0 := 135) (pc' := 175) rfl (hb hby at_135) (by decide) (by decide) ?_
        show Steps p.tables e below (T36.setTop (mkF m 175 #[.val (.int i0), .val (.int i1), .val (.int i2), .val (.int (own_m i0)), .val (.int (own_m i1)), .val (.int (own_m i2)), .val (.int (own_u (own_m i1) (own_m i0))), .val (.ref b2), .val (.ref b12), .val (.double (FP.ddiv (FP.i2d (own_u (own_m i1) (own_m i0))) (FP.i2d (own_m i0)))), .second, .val (.double (FP.ddiv (FP.i2d (own_m i2)) (FP.i2d (own_m i0)))), .second, .val (.int (1 : Int32)), .val (.int (1 : Int32))] [])) _
        refine XS.iload X36.here hx rfl (hb hby at_175) rfl ?_
        show Steps p.tables e below (T36.setTop (mkF m 177 #[.val (.int i0), .val (.int i1), .val (.int i2), .val (.int (own_m i0)), .val (.int (own_m i1)), .val (.int (own_m i2)), .val (.int (own_u (own_m i1) (own_m i0))), .val (.ref b2), .val (.ref b12), .val (.double (FP.ddiv (FP.i2d (own_u (own_m i1) (own_m i0))) (FP.i2d (own_m i0)))), .second, .val (.double (FP.ddiv (FP.i2d (own_m i2)) (FP.i2d (own_m i0)))), .second, .val (.int (1 : Int32)), .val (.int (1 : Int32))] [(.int (1 : Int32))])) _
        refine XS.ifNo X36.here hx rfl (hb hby at_177) rfl ((if0 _ _).trans (feq (by decide : ¬ ((1 : Int32) = (0 : Int32)))).1) ?_
        show Steps p.tables e below (T36.setTop (mkF m 180 #[.val (.int i0), .val (.int i1), .val (.int i2), .val (.int (own_m i0)), .val (.int (own_m i1)), .val (.int (own_m i2)), .val (.int (own_u (own_m i1) (own_m i0))), .val (.ref b2), .val (.ref b12), .val (.double (FP.ddiv (FP.i2d (own_u (own_m i1) (own_m i0))) (FP.i2d (own_m i0)))), .second, .val (.double (FP.ddiv (FP.i2d (own_m i2)) (FP.i2d (own_m i0)))), .second, .val (.int (1 : Int32)), .val (.int (1 : Int32))] [])) _
        refine XS.iload X36.here hx rfl (hb hby at_180) rfl ?_
        show Steps p.tables e below (T36.setTop (mkF m 182 #[.val (.int i0), .val (.int i1), .val (.int i2), .val (.int (own_m i0)), .val (.int (own_m i1)), .val (.int (own_m i2)), .val (.int (own_u (own_m i1) (own_m i0))), .val (.ref b2), .val (.ref b12), .val (.double (FP.ddiv (FP.i2d (own_u (own_m i1) (own_m i0))) (FP.i2d (own_m i0)))), .second, .val (.double (FP.ddiv (FP.i2d (own_m i2)) (FP.i2d (own_m i0)))), .second, .val (.int (1 : Int32)), .val (.int (1 : Int32))] [(.int (1 : Int32))])) _
        refine XS.ifNo X36.here hx rfl (hb hby at_182) rfl ((if0 _ _).trans (feq (by decide : ¬ ((1 : Int32) = (0 : Int32)))).1) ?_
        show Steps p.tables e below (T36.setTop (mkF m 185 #[.val (.int i0), .val (.int i1), .val (.int i2), .val (.int (own_m i0)), .val (.int (own_m i1)), .val (.int (own_m i2)), .val (.int (own_u (own_m i1) (own_m i0))), .val (.ref b2), .val (.ref b12), .val (.double (FP.ddiv (FP.i2d (own_u (own_m i1) (own_m i0))) (FP.i2d (own_m i0)))), .second, .val (.double (FP.ddiv (FP.i2d (own_m i2)) (FP.i2d (own_m i0)))), .second, .val (.int (1 : Int32)), .val (.int (1 : Int32))] [])) _
        refine XS.iconst X36.here hx rfl (hb hby at_185) ?_
        show Steps p.tables e below (T36.setTop (mkF m 186 #[.val (.int i0), .val (.int i1), .val (.int i2), .val (.int (own_m i0)), .val (.int (own_m i1)), .val (.int (own_m i2)), .val (.int (own_u (own_m i1) (own_m i0))), .val (.ref b2), .val (.ref b12), .val (.double (FP.ddiv (FP.i2d (own_u (own_m i1) (own_m i0))) (FP.i2d (own_m i0)))), .second, .val (.double (FP.ddiv (FP.i2d (own_m i2)) (FP.i2d (own_m i0)))), .second, .val (.int (1 : Int32)), .val (.int (1 : Int32))] [(.int (1 : Int32))])) _
        refine XS.goto X36.here hx rfl (pc0 := 186) (pc' := 190) rfl (hb hby at_186) (by decide) (by decide) ?_
        exact kt
      obtain ⟨fs, hr, hrun, hended, hWE⟩ := Stand.leaveW (s := s) (vm₁ := T20.vm) X36 hS20 (by rw [c36_0]; exact (Nat.le_refl _)) (v := some (.int (1 : Int32))) (fun h => by rw [Bd.returns] at h; cases h)
      refine ⟨_, _, pre0 _ ?_, hrun, hended, _, _, rfl, ?_, hWE.1, hWE.2.1, hWE.2.2.1, hWE.2.2.2.mono (by decide) (by decide)⟩
      · show Steps p.tables e below (s₁.setTop (mkF m 0 #[.val (.int i0), .val (.int i1), .val (.int i2), .unset, .unset, .unset, .unset, .unset, .unset, .unset, .unset, .unset, .unset, .unset, .unset] [])) _
        refine sg1 _ ?_
        refine st2 _ ?_
        refine sg6 _ ?_
        refine st7.trans ?_
        refine sg11 _ ?_
        refine st12 _ ?_
        refine sg19 _ ?_
        refine st20.trans ?_
        refine sg27 _ ?_
        refine sg33 _ ?_
        refine st34.trans ?_
        refine sg35 _ ?_
        refine st36.trans ?_
        refine sg37 _ ?_
        refine sg38 _ ?_
        show Steps p.tables e below (T36.setTop (mkF m 190 #[.val (.int i0), .val (.int i1), .val (.int i2), .val (.int (own_m i0)), .val (.int (own_m i1)), .val (.int (own_m i2)), .val (.int (own_u (own_m i1) (own_m i0))), .val (.ref b2), .val (.ref b12), .val (.double (FP.ddiv (FP.i2d (own_u (own_m i1) (own_m i0))) (FP.i2d (own_m i0)))), .second, .val (.double (FP.ddiv (FP.i2d (own_m i2)) (FP.i2d (own_m i0)))), .second, .val (.int (1 : Int32)), .val (.int (1 : Int32))] [(.int (1 : Int32))])) _
        exact retN X36 hx (t := .boolean) Bd.returns (by simp) (hb hby at_190) hr
      · show Q_rm0 Z i0 i1 i2 h0 n0 _ T36.heap _
        rw [c36_0]
        exact ⟨rfl, N36⟩
    · have sg39 : ∀ target, Steps p.tables e below (T36.setTop (mkF m 141 #[.val (.int i0), .val (.int i1), .val (.int i2), .val (.int (own_m i0)), .val (.int (own_m i1)), .val (.int (own_m i2)), .val (.int (own_u (own_m i1) (own_m i0))), .val (.ref b2), .val (.ref b12), .val (.double (FP.ddiv (FP.i2d (own_u (own_m i1) (own_m i0))) (FP.i2d (own_m i0)))), .second, .val (.double (FP.ddiv (FP.i2d (own_m i2)) (FP.i2d (own_m i0)))), .second, .val (.int (1 : Int32)), .unset] [(.int (own_m i0)), (.int (own_m i2))])) target → Steps p.tables e below (T36.setTop (mkF m 111 #[.val (.int i0), .val (.int i1), .val (.int i2), .val (.int (own_m i0)), .val (.int (own_m i1)), .val (.int (own_m i2)), .val (.int (own_u (own_m i1) (own_m i0))), .val (.ref b2), .val (.ref b12), .val (.double (FP.ddiv (FP.i2d (own_u (own_m i1) (own_m i0))) (FP.i2d (own_m i0)))), .second, .val (.double (FP.ddiv (FP.i2d (own_m i2)) (FP.i2d (own_m i0)))), .second, .val (.int (1 : Int32)), .unset] [(.int (own_m i0)), (.int (own_m i2))])) target := by
        intro target kt
        show Steps p.tables e below (T36.setTop (mkF m 111 #[.val (.int i0), .val (.int i1), .val (.int i2), .val (.int (own_m i0)), .val (.int (own_m i1)), .val (.int (own_m i2)), .val (.int (own_u (own_m i1) (own_m i0))), .val (.ref b2), .val (.ref b12), .val (.double (FP.ddiv (FP.i2d (own_u (own_m i1) (own_m i0))) (FP.i2d (own_m i0)))), .second, .val (.double (FP.ddiv (FP.i2d (own_m i2)) (FP.i2d (own_m i0)))), .second, .val (.int (1 : Int32)), .unset] [(.int (own_m i0)), (.int (own_m i2))])) _
        refine XS.icmpYes X36.here hx rfl (pc0 := 111) (pc' := 138) rfl (hb hby at_111) rfl (flt (h1 : ¬ ((own_m i2) < (own_m i0)))).2.1 (by decide) (by decide) ?_
        show Steps p.tables e below (T36.setTop (mkF m 138 #[.val (.int i0), .val (.int i1), .val (.int i2), .val (.int (own_m i0)), .val (.int (own_m i1)), .val (.int (own_m i2)), .val (.int (own_u (own_m i1) (own_m i0))), .val (.ref b2), .val (.ref b12), .val (.double (FP.ddiv (FP.i2d (own_u (own_m i1) (own_m i0))) (FP.i2d (own_m i0)))), .second, .val (.double (FP.ddiv (FP.i2d (own_m i2)) (FP.i2d (own_m i0)))), .second, .val (.int (1 : Int32)), .unset] [])) _
        refine XS.iload X36.here hx rfl (hb hby at_138) rfl ?_
        show Steps p.tables e below (T36.setTop (mkF m 140 #[.val (.int i0), .val (.int i1), .val (.int i2), .val (.int (own_m i0)), .val (.int (own_m i1)), .val (.int (own_m i2)), .val (.int (own_u (own_m i1) (own_m i0))), .val (.ref b2), .val (.ref b12), .val (.double (FP.ddiv (FP.i2d (own_u (own_m i1) (own_m i0))) (FP.i2d (own_m i0)))), .second, .val (.double (FP.ddiv (FP.i2d (own_m i2)) (FP.i2d (own_m i0)))), .second, .val (.int (1 : Int32)), .unset] [(.int (own_m i2))])) _
        refine XS.iloadN X36.here hx rfl (hb hby at_140) rfl ?_
        exact kt
      by_cases h2 : (own_m i2) = (own_m i0)
      · have sg41 : ∀ target, Steps p.tables e below (T36.setTop (mkF m 190 #[.val (.int i0), .val (.int i1), .val (.int i2), .val (.int (own_m i0)), .val (.int (own_m i1)), .val (.int (own_m i2)), .val (.int (own_u (own_m i1) (own_m i0))), .val (.ref b2), .val (.ref b12), .val (.double (FP.ddiv (FP.i2d (own_u (own_m i1) (own_m i0))) (FP.i2d (own_m i0)))), .second, .val (.double (FP.ddiv (FP.i2d (own_m i2)) (FP.i2d (own_m i0)))), .second, .val (.int (1 : Int32)), .val (.int (1 : Int32))] [(.int (1 : Int32))])) target → Steps p.tables e below (T36.setTop (mkF m 141 #[.val (.int i0), .val (.int i1), .val (.int i2), .val (.int (own_m i0)), .val (.int (own_m i1)), .val (.int (own_m i2)), .val (.int (own_u (own_m i1) (own_m i0))), .val (.ref b2), .val (.ref b12), .val (.double (FP.ddiv (FP.i2d (own_u (own_m i1) (own_m i0))) (FP.i2d (own_m i0)))), .second, .val (.double (FP.ddiv (FP.i2d (own_m i2)) (FP.i2d (own_m i0)))), .second, .val (.int (1 : Int32)), .unset] [(.int (own_m i0)), (.int (own_m i2))])) target := by
          intro target kt
          show Steps p.tables e below (T36.setTop (mkF m 141 #[.val (.int i0), .val (.int i1), .val (.int i2), .val (.int (own_m i0)), .val (.int (own_m i1)), .val (.int (own_m i2)), .val (.int (own_u (own_m i1) (own_m i0))), .val (.ref b2), .val (.ref b12), .val (.double (FP.ddiv (FP.i2d (own_u (own_m i1) (own_m i0))) (FP.i2d (own_m i0)))), .second, .val (.double (FP.ddiv (FP.i2d (own_m i2)) (FP.i2d (own_m i0)))), .second, .val (.int (1 : Int32)), .unset] [(.int (own_m i0)), (.int (own_m i2))])) _
          refine XS.icmpNo X36.here hx rfl (hb hby at_141) rfl (teq (h2 : (own_m i2) = (own_m i0))).2 ?_
          show Steps p.tables e below (T36.setTop (mkF m 144 #[.val (.int i0), .val (.int i1), .val (.int i2), .val (.int (own_m i0)), .val (.int (own_m i1)), .val (.int (own_m i2)), .val (.int (own_u (own_m i1) (own_m i0))), .val (.ref b2), .val (.ref b12), .val (.double (FP.ddiv (FP.i2d (own_u (own_m i1) (own_m i0))) (FP.i2d (own_m i0)))), .second, .val (.double (FP.ddiv (FP.i2d (own_m i2)) (FP.i2d (own_m i0)))), .second, .val (.int (1 : Int32)), .unset] [])) _
          refine XS.dload X36.here hx rfl (hb hby at_144) rfl ?_
          show Steps p.tables e below (T36.setTop (mkF m 146 #[.val (.int i0), .val (.int i1), .val (.int i2), .val (.int (own_m i0)), .val (.int (own_m i1)), .val (.int (own_m i2)), .val (.int (own_u (own_m i1) (own_m i0))), .val (.ref b2), .val (.ref b12), .val (.double (FP.ddiv (FP.i2d (own_u (own_m i1) (own_m i0))) (FP.i2d (own_m i0)))), .second, .val (.double (FP.ddiv (FP.i2d (own_m i2)) (FP.i2d (own_m i0)))), .second, .val (.int (1 : Int32)), .unset] [(.double (FP.ddiv (FP.i2d (own_m i2)) (FP.i2d (own_m i0))))])) _
          refine XS.dconst1 X36.here hx rfl (v := (4607182418800017408 : UInt64)) (hb hby at_146) rfl ?_
          show Steps p.tables e below (T36.setTop (mkF m 147 #[.val (.int i0), .val (.int i1), .val (.int i2), .val (.int (own_m i0)), .val (.int (own_m i1)), .val (.int (own_m i2)), .val (.int (own_u (own_m i1) (own_m i0))), .val (.ref b2), .val (.ref b12), .val (.double (FP.ddiv (FP.i2d (own_u (own_m i1) (own_m i0))) (FP.i2d (own_m i0)))), .second, .val (.double (FP.ddiv (FP.i2d (own_m i2)) (FP.i2d (own_m i0)))), .second, .val (.int (1 : Int32)), .unset] [(.double (4607182418800017408 : UInt64)), (.double (FP.ddiv (FP.i2d (own_m i2)) (FP.i2d (own_m i0))))])) _
          refine XS.dcmpS X36.here hx rfl (v := (0 : Int32)) (hb hby at_147) rfl (own_even hl h2) ?_
          show Steps p.tables e below (T36.setTop (mkF m 148 #[.val (.int i0), .val (.int i1), .val (.int i2), .val (.int (own_m i0)), .val (.int (own_m i1)), .val (.int (own_m i2)), .val (.int (own_u (own_m i1) (own_m i0))), .val (.ref b2), .val (.ref b12), .val (.double (FP.ddiv (FP.i2d (own_u (own_m i1) (own_m i0))) (FP.i2d (own_m i0)))), .second, .val (.double (FP.ddiv (FP.i2d (own_m i2)) (FP.i2d (own_m i0)))), .second, .val (.int (1 : Int32)), .unset] [(.int (0 : Int32))])) _
          refine XS.ifNo X36.here hx rfl (hb hby at_148) rfl ((if0 _ _).trans (teq (by decide : (0 : Int32) = (0 : Int32))).2) ?_
          show Steps p.tables e below (T36.setTop (mkF m 151 #[.val (.int i0), .val (.int i1), .val (.int i2), .val (.int (own_m i0)), .val (.int (own_m i1)), .val (.int (own_m i2)), .val (.int (own_u (own_m i1) (own_m i0))), .val (.ref b2), .val (.ref b12), .val (.double (FP.ddiv (FP.i2d (own_u (own_m i1) (own_m i0))) (FP.i2d (own_m i0)))), .second, .val (.double (FP.ddiv (FP.i2d (own_m i2)) (FP.i2d (own_m i0)))), .second, .val (.int (1 : Int32)), .unset] [])) _
          refine XS.iconst X36.here hx rfl (hb hby at_151) ?_
          show Steps p.tables e below (T36.setTop (mkF m 152 #[.val (.int i0), .val (.int i1), .val (.int i2), .val (.int (own_m i0)), .val (.int (own_m i1)), .val (.int (own_m i2)), .val (.int (own_u (own_m i1) (own_m i0))), .val (.ref b2), .val (.ref b12), .val (.double (FP.ddiv (FP.i2d (own_u (own_m i1) (own_m i0))) (FP.i2d (own_m i0)))), .second, .val (.double (FP.ddiv (FP.i2d (own_m i2)) (FP.i2d (own_m i0)))), .second, .val (.int (1 : Int32)), .unset] [(.int (1 : Int32))])) _
          refine XS.goto X36.here hx rfl (pc0 := 152) (pc' := 156) rfl (hb hby at_152) (by decide) (by decide) ?_
          show Steps p.tables e below (T36.setTop (mkF m 156 #[.val (.int i0), .val (.int i1), .val (.int i2), .val (.int (own_m i0)), .val (.int (own_m i1)), .val (.int (own_m i2)), .val (.int (own_u (own_m i1) (own_m i0))), .val (.ref b2), .val (.ref b12), .val (.double (FP.ddiv (FP.i2d (own_u (own_m i1) (own_m i0))) (FP.i2d (own_m i0)))), .second, .val (.double (FP.ddiv (FP.i2d (own_m i2)) (FP.i2d (own_m i0)))), .second, .val (.int (1 : Int32)), .unset] [(.int (1 : Int32))])) _
          refine XS.istore X36.here hx rfl (hb hby at_156) rfl (l' := #[.val (.int i0), .val (.int i1), .val (.int i2), .val (.int (own_m i0)), .val (.int (own_m i1)), .val (.int (own_m i2)), .val (.int (own_u (own_m i1) (own_m i0))), .val (.ref b2), .val (.ref b12), .val (.double (FP.ddiv (FP.i2d (own_u (own_m i1) (own_m i0))) (FP.i2d (own_m i0)))), .second, .val (.double (FP.ddiv (FP.i2d (own_m i2)) (FP.i2d (own_m i0)))), .second, .val (.int (1 : Int32)), .val (.int (1 : Int32))]) rfl ?_
          show Steps p.tables e below (T36.setTop (mkF m 158 #[.val (.int i0), .val (.int i1), .val (.int i2), .val (.int (own_m i0)), .val (.int (own_m i1)), .val (.int (own_m i2)), .val (.int (own_u (own_m i1) (own_m i0))), .val (.ref b2), .val (.ref b12), .val (.double (FP.ddiv (FP.i2d (own_u (own_m i1) (own_m i0))) (FP.i2d (own_m i0)))), .second, .val (.double (FP.ddiv (FP.i2d (own_m i2)) (FP.i2d (own_m i0)))), .second, .val (.int (1 : Int32)), .val (.int (1 : Int32))] [])) _
          refine XS.goto X36.here hx rfl (pc0 := 158) (pc' := 175) rfl (hb hby at_158) (by decide) (by decide) ?_
          show Steps p.tables e below (T36.setTop (mkF m 175 #[.val (.int i0), .val (.int i1), .val (.int i2), .val (.int (own_m i0)), .val (.int (own_m i1)), .val (.int (own_m i2)), .val (.int (own_u (own_m i1) (own_m i0))), .val (.ref b2), .val (.ref b12), .val (.double (FP.ddiv (FP.i2d (own_u (own_m i1) (own_m i0))) (FP.i2d (own_m i0)))), .second, .val (.double (FP.ddiv (FP.i2d (own_m i2)) (FP.i2d (own_m i0)))), .second, .val (.int (1 : Int32)), .val (.int (1 : Int32))] [])) _
          refine XS.iload X36.here hx rfl (hb hby at_175) rfl ?_
          show Steps p.tables e below (T36.setTop (mkF m 177 #[.val (.int i0), .val (.int i1), .val (.int i2), .val (.int (own_m i0)), .val (.int (own_m i1)), .val (.int (own_m i2)), .val (.int (own_u (own_m i1) (own_m i0))), .val (.ref b2), .val (.ref b12), .val (.double (FP.ddiv (FP.i2d (own_u (own_m i1) (own_m i0))) (FP.i2d (own_m i0)))), .second, .val (.double (FP.ddiv (FP.i2d (own_m i2)) (FP.i2d (own_m i0)))), .second, .val (.int (1 : Int32)), .val (.int (1 : Int32))] [(.int (1 : Int32))])) _
          refine XS.ifNo X36.here hx rfl (hb hby at_177) rfl ((if0 _ _).trans (feq (by decide : ¬ ((1 : Int32) = (0 : Int32)))).1) ?_
          show Steps p.tables e below (T36.setTop (mkF m 180 #[.val (.int i0), .val (.int i1), .val (.int i2), .val (.int (own_m i0)), .val (.int (own_m i1)), .val (.int (own_m i2)), .val (.int (own_u (own_m i1) (own_m i0))), .val (.ref b2), .val (.ref b12), .val (.double (FP.ddiv (FP.i2d (own_u (own_m i1) (own_m i0))) (FP.i2d (own_m i0)))), .second, .val (.double (FP.ddiv (FP.i2d (own_m i2)) (FP.i2d (own_m i0)))), .second, .val (.int (1 : Int32)), .val (.int (1 : Int32))] [])) _
          refine XS.iload X36.here hx rfl (hb hby at_180) rfl ?_
          show Steps p.tables e below (T36.setTop (mkF m 182 #[.val (.int i0), .val (.int i1), .val (.int i2), .val (.int (own_m i0)), .val (.int (own_m i1)), .val (.int (own_m i2)), .val (.int (own_u (own_m i1) (own_m i0))), .val (.ref b2), .val (.ref b12), .val (.double (FP.ddiv (FP.i2d (own_u (own_m i1) (own_m i0))) (FP.i2d (own_m i0)))), .second, .val (.double (FP.ddiv (FP.i2d (own_m i2)) (FP.i2d (own_m i0)))), .second, .val (.int (1 : Int32)), .val (.int (1 : Int32))] [(.int (1 : Int32))])) _
          refine XS.ifNo X36.here hx rfl (hb hby at_182) rfl ((if0 _ _).trans (feq (by decide : ¬ ((1 : Int32) = (0 : Int32)))).1) ?_
          show Steps p.tables e below (T36.setTop (mkF m 185 #[.val (.int i0), .val (.int i1), .val (.int i2), .val (.int (own_m i0)), .val (.int (own_m i1)), .val (.int (own_m i2)), .val (.int (own_u (own_m i1) (own_m i0))), .val (.ref b2), .val (.ref b12), .val (.double (FP.ddiv (FP.i2d (own_u (own_m i1) (own_m i0))) (FP.i2d (own_m i0)))), .second, .val (.double (FP.ddiv (FP.i2d (own_m i2)) (FP.i2d (own_m i0)))), .second, .val (.int (1 : Int32)), .val (.int (1 : Int32))] [])) _
          refine XS.iconst X36.here hx rfl (hb hby at_185) ?_
          show Steps p.tables e below (T36.setTop (mkF m 186 #[.val (.int i0), .val (.int i1), .val (.int i2), .val (.int (own_m i0)), .val (.int (own_m i1)), .val (.int (own_m i2)), .val (.int (own_u (own_m i1) (own_m i0))), .val (.ref b2), .val (.ref b12), .val (.double (FP.ddiv (FP.i2d (own_u (own_m i1) (own_m i0))) (FP.i2d (own_m i0)))), .second, .val (.double (FP.ddiv (FP.i2d (own_m i2)) (FP.i2d (own_m i0)))), .second, .val (.int (1 : Int32)), .val (.int (1 : Int32))] [(.int (1 : Int32))])) _
          refine XS.goto X36.here hx rfl (pc0 := 186) (pc' := 190) rfl (hb hby at_186) (by decide) (by decide) ?_
          exact kt
        obtain ⟨fs, hr, hrun, hended, hWE⟩ := Stand.leaveW (s := s) (vm₁ := T20.vm) X36 hS20 (by rw [c36_0]; exact (Nat.le_refl _)) (v := some (.int (1 : Int32))) (fun h => by rw [Bd.returns] at h; cases h)
        refine ⟨_, _, pre0 _ ?_, hrun, hended, _, _, rfl, ?_, hWE.1, hWE.2.1, hWE.2.2.1, hWE.2.2.2.mono (by decide) (by decide)⟩
        · show Steps p.tables e below (s₁.setTop (mkF m 0 #[.val (.int i0), .val (.int i1), .val (.int i2), .unset, .unset, .unset, .unset, .unset, .unset, .unset, .unset, .unset, .unset, .unset, .unset] [])) _
          refine sg1 _ ?_
          refine st2 _ ?_
          refine sg6 _ ?_
          refine st7.trans ?_
          refine sg11 _ ?_
          refine st12 _ ?_
          refine sg19 _ ?_
          refine st20.trans ?_
          refine sg27 _ ?_
          refine sg33 _ ?_
          refine st34.trans ?_
          refine sg35 _ ?_
          refine st36.trans ?_
          refine sg37 _ ?_
          refine sg39 _ ?_
          refine sg41 _ ?_
          show Steps p.tables e below (T36.setTop (mkF m 190 #[.val (.int i0), .val (.int i1), .val (.int i2), .val (.int (own_m i0)), .val (.int (own_m i1)), .val (.int (own_m i2)), .val (.int (own_u (own_m i1) (own_m i0))), .val (.ref b2), .val (.ref b12), .val (.double (FP.ddiv (FP.i2d (own_u (own_m i1) (own_m i0))) (FP.i2d (own_m i0)))), .second, .val (.double (FP.ddiv (FP.i2d (own_m i2)) (FP.i2d (own_m i0)))), .second, .val (.int (1 : Int32)), .val (.int (1 : Int32))] [(.int (1 : Int32))])) _
          exact retN X36 hx (t := .boolean) Bd.returns (by simp) (hb hby at_190) hr
        · show Q_rm0 Z i0 i1 i2 h0 n0 _ T36.heap _
          rw [c36_0]
          exact ⟨rfl, N36⟩
      · have sg40 : ∀ target, Steps p.tables e below (T36.setTop (mkF m 190 #[.val (.int i0), .val (.int i1), .val (.int i2), .val (.int (own_m i0)), .val (.int (own_m i1)), .val (.int (own_m i2)), .val (.int (own_u (own_m i1) (own_m i0))), .val (.ref b2), .val (.ref b12), .val (.double (FP.ddiv (FP.i2d (own_u (own_m i1) (own_m i0))) (FP.i2d (own_m i0)))), .second, .val (.double (FP.ddiv (FP.i2d (own_m i2)) (FP.i2d (own_m i0)))), .second, .val (.int (1 : Int32)), .val (.int (1 : Int32))] [(.int (1 : Int32))])) target → Steps p.tables e below (T36.setTop (mkF m 141 #[.val (.int i0), .val (.int i1), .val (.int i2), .val (.int (own_m i0)), .val (.int (own_m i1)), .val (.int (own_m i2)), .val (.int (own_u (own_m i1) (own_m i0))), .val (.ref b2), .val (.ref b12), .val (.double (FP.ddiv (FP.i2d (own_u (own_m i1) (own_m i0))) (FP.i2d (own_m i0)))), .second, .val (.double (FP.ddiv (FP.i2d (own_m i2)) (FP.i2d (own_m i0)))), .second, .val (.int (1 : Int32)), .unset] [(.int (own_m i0)), (.int (own_m i2))])) target := by
          intro target kt
          show Steps p.tables e below (T36.setTop (mkF m 141 #[.val (.int i0), .val (.int i1), .val (.int i2), .val (.int (own_m i0)), .val (.int (own_m i1)), .val (.int (own_m i2)), .val (.int (own_u (own_m i1) (own_m i0))), .val (.ref b2), .val (.ref b12), .val (.double (FP.ddiv (FP.i2d (own_u (own_m i1) (own_m i0))) (FP.i2d (own_m i0)))), .second, .val (.double (FP.ddiv (FP.i2d (own_m i2)) (FP.i2d (own_m i0)))), .second, .val (.int (1 : Int32)), .unset] [(.int (own_m i0)), (.int (own_m i2))])) _
          refine XS.icmpYes X36.here hx rfl (pc0 := 141) (pc' := 161) rfl (hb hby at_141) rfl (feq (h2 : ¬ ((own_m i2) = (own_m i0)))).2 (by decide) (by decide) ?_
          show Steps p.tables e below (T36.setTop (mkF m 161 #[.val (.int i0), .val (.int i1), .val (.int i2), .val (.int (own_m i0)), .val (.int (own_m i1)), .val (.int (own_m i2)), .val (.int (own_u (own_m i1) (own_m i0))), .val (.ref b2), .val (.ref b12), .val (.double (FP.ddiv (FP.i2d (own_u (own_m i1) (own_m i0))) (FP.i2d (own_m i0)))), .second, .val (.double (FP.ddiv (FP.i2d (own_m i2)) (FP.i2d (own_m i0)))), .second, .val (.int (1 : Int32)), .unset] [])) _
          refine XS.dload X36.here hx rfl (hb hby at_161) rfl ?_
          show Steps p.tables e below (T36.setTop (mkF m 163 #[.val (.int i0), .val (.int i1), .val (.int i2), .val (.int (own_m i0)), .val (.int (own_m i1)), .val (.int (own_m i2)), .val (.int (own_u (own_m i1) (own_m i0))), .val (.ref b2), .val (.ref b12), .val (.double (FP.ddiv (FP.i2d (own_u (own_m i1) (own_m i0))) (FP.i2d (own_m i0)))), .second, .val (.double (FP.ddiv (FP.i2d (own_m i2)) (FP.i2d (own_m i0)))), .second, .val (.int (1 : Int32)), .unset] [(.double (FP.ddiv (FP.i2d (own_m i2)) (FP.i2d (own_m i0))))])) _
          refine XS.dconst1 X36.here hx rfl (v := (4607182418800017408 : UInt64)) (hb hby at_163) rfl ?_
          show Steps p.tables e below (T36.setTop (mkF m 164 #[.val (.int i0), .val (.int i1), .val (.int i2), .val (.int (own_m i0)), .val (.int (own_m i1)), .val (.int (own_m i2)), .val (.int (own_u (own_m i1) (own_m i0))), .val (.ref b2), .val (.ref b12), .val (.double (FP.ddiv (FP.i2d (own_u (own_m i1) (own_m i0))) (FP.i2d (own_m i0)))), .second, .val (.double (FP.ddiv (FP.i2d (own_m i2)) (FP.i2d (own_m i0)))), .second, .val (.int (1 : Int32)), .unset] [(.double (4607182418800017408 : UInt64)), (.double (FP.ddiv (FP.i2d (own_m i2)) (FP.i2d (own_m i0))))])) _
          refine XS.dcmpS X36.here hx rfl (v := (1 : Int32)) (hb hby at_164) rfl (own_more hl (own_m_rng i0).2 h1 h2) ?_
          show Steps p.tables e below (T36.setTop (mkF m 165 #[.val (.int i0), .val (.int i1), .val (.int i2), .val (.int (own_m i0)), .val (.int (own_m i1)), .val (.int (own_m i2)), .val (.int (own_u (own_m i1) (own_m i0))), .val (.ref b2), .val (.ref b12), .val (.double (FP.ddiv (FP.i2d (own_u (own_m i1) (own_m i0))) (FP.i2d (own_m i0)))), .second, .val (.double (FP.ddiv (FP.i2d (own_m i2)) (FP.i2d (own_m i0)))), .second, .val (.int (1 : Int32)), .unset] [(.int (1 : Int32))])) _
          refine XS.ifNo X36.here hx rfl (hb hby at_165) rfl ((if0 _ _).trans (tlt (by decide : (0 : Int32) < (1 : Int32))).2.2.2) ?_
          show Steps p.tables e below (T36.setTop (mkF m 168 #[.val (.int i0), .val (.int i1), .val (.int i2), .val (.int (own_m i0)), .val (.int (own_m i1)), .val (.int (own_m i2)), .val (.int (own_u (own_m i1) (own_m i0))), .val (.ref b2), .val (.ref b12), .val (.double (FP.ddiv (FP.i2d (own_u (own_m i1) (own_m i0))) (FP.i2d (own_m i0)))), .second, .val (.double (FP.ddiv (FP.i2d (own_m i2)) (FP.i2d (own_m i0)))), .second, .val (.int (1 : Int32)), .unset] [])) _
          refine XS.iconst X36.here hx rfl (hb hby at_168) ?_
          show Steps p.tables e below (T36.setTop (mkF m 169 #[.val (.int i0), .val (.int i1), .val (.int i2), .val (.int (own_m i0)), .val (.int (own_m i1)), .val (.int (own_m i2)), .val (.int (own_u (own_m i1) (own_m i0))), .val (.ref b2), .val (.ref b12), .val (.double (FP.ddiv (FP.i2d (own_u (own_m i1) (own_m i0))) (FP.i2d (own_m i0)))), .second, .val (.double (FP.ddiv (FP.i2d (own_m i2)) (FP.i2d (own_m i0)))), .second, .val (.int (1 : Int32)), .unset] [(.int (1 : Int32))])) _
          refine XS.goto X36.here hx rfl (pc0 := 169) (pc' := 173) rfl (hb hby at_169) (by decide) (by decide) ?_
          show Steps p.tables e below (T36.setTop (mkF m 173 #[.val (.int i0), .val (.int i1), .val (.int i2), .val (.int (own_m i0)), .val (.int (own_m i1)), .val (.int (own_m i2)), .val (.int (own_u (own_m i1) (own_m i0))), .val (.ref b2), .val (.ref b12), .val (.double (FP.ddiv (FP.i2d (own_u (own_m i1) (own_m i0))) (FP.i2d (own_m i0)))), .second, .val (.double (FP.ddiv (FP.i2d (own_m i2)) (FP.i2d (own_m i0)))), .second, .val (.int (1 : Int32)), .unset] [(.int (1 : Int32))])) _
          refine XS.istore X36.here hx rfl (hb hby at_173) rfl (l' := #[.val (.int i0), .val (.int i1), .val (.int i2), .val (.int (own_m i0)), .val (.int (own_m i1)), .val (.int (own_m i2)), .val (.int (own_u (own_m i1) (own_m i0))), .val (.ref b2), .val (.ref b12), .val (.double (FP.ddiv (FP.i2d (own_u (own_m i1) (own_m i0))) (FP.i2d (own_m i0)))), .second, .val (.double (FP.ddiv (FP.i2d (own_m i2)) (FP.i2d (own_m i0)))), .second, .val (.int (1 : Int32)), .val (.int (1 : Int32))]) rfl ?_
          show Steps p.tables e below (T36.setTop (mkF m 175 #[.val (.int i0), .val (.int i1), .val (.int i2), .val (.int (own_m i0)), .val (.int (own_m i1)), .val (.int (own_m i2)), .val (.int (own_u (own_m i1) (own_m i0))), .val (.ref b2), .val (.ref b12), .val (.double (FP.ddiv (FP.i2d (own_u (own_m i1) (own_m i0))) (FP.i2d (own_m i0)))), .second, .val (.double (FP.ddiv (FP.i2d (own_m i2)) (FP.i2d (own_m i0)))), .second, .val (.int (1 : Int32)), .val (.int (1 : Int32))] [])) _
          refine XS.iload X36.here hx rfl (hb hby at_175) rfl ?_
          show Steps p.tables e below (T36.setTop (mkF m 177 #[.val (.int i0), .val (.int i1), .val (.int i2), .val (.int (own_m i0)), .val (.int (own_m i1)), .val (.int (own_m i2)), .val (.int (own_u (own_m i1) (own_m i0))), .val (.ref b2), .val (.ref b12), .val (.double (FP.ddiv (FP.i2d (own_u (own_m i1) (own_m i0))) (FP.i2d (own_m i0)))), .second, .val (.double (FP.ddiv (FP.i2d (own_m i2)) (FP.i2d (own_m i0)))), .second, .val (.int (1 : Int32)), .val (.int (1 : Int32))] [(.int (1 : Int32))])) _
          refine XS.ifNo X36.here hx rfl (hb hby at_177) rfl ((if0 _ _).trans (feq (by decide : ¬ ((1 : Int32) = (0 : Int32)))).1) ?_
          show Steps p.tables e below (T36.setTop (mkF m 180 #[.val (.int i0), .val (.int i1), .val (.int i2), .val (.int (own_m i0)), .val (.int (own_m i1)), .val (.int (own_m i2)), .val (.int (own_u (own_m i1) (own_m i0))), .val (.ref b2), .val (.ref b12), .val (.double (FP.ddiv (FP.i2d (own_u (own_m i1) (own_m i0))) (FP.i2d (own_m i0)))), .second, .val (.double (FP.ddiv (FP.i2d (own_m i2)) (FP.i2d (own_m i0)))), .second, .val (.int (1 : Int32)), .val (.int (1 : Int32))] [])) _
          refine XS.iload X36.here hx rfl (hb hby at_180) rfl ?_
          show Steps p.tables e below (T36.setTop (mkF m 182 #[.val (.int i0), .val (.int i1), .val (.int i2), .val (.int (own_m i0)), .val (.int (own_m i1)), .val (.int (own_m i2)), .val (.int (own_u (own_m i1) (own_m i0))), .val (.ref b2), .val (.ref b12), .val (.double (FP.ddiv (FP.i2d (own_u (own_m i1) (own_m i0))) (FP.i2d (own_m i0)))), .second, .val (.double (FP.ddiv (FP.i2d (own_m i2)) (FP.i2d (own_m i0)))), .second, .val (.int (1 : Int32)), .val (.int (1 : Int32))] [(.int (1 : Int32))])) _
          refine XS.ifNo X36.here hx rfl (hb hby at_182) rfl ((if0 _ _).trans (feq (by decide : ¬ ((1 : Int32) = (0 : Int32)))).1) ?_
          show Steps p.tables e below (T36.setTop (mkF m 185 #[.val (.int i0), .val (.int i1), .val (.int i2), .val (.int (own_m i0)), .val (.int (own_m i1)), .val (.int (own_m i2)), .val (.int (own_u (own_m i1) (own_m i0))), .val (.ref b2), .val (.ref b12), .val (.double (FP.ddiv (FP.i2d (own_u (own_m i1) (own_m i0))) (FP.i2d (own_m i0)))), .second, .val (.double (FP.ddiv (FP.i2d (own_m i2)) (FP.i2d (own_m i0)))), .second, .val (.int (1 : Int32)), .val (.int (1 : Int32))] [])) _
          refine XS.iconst X36.here hx rfl (hb hby at_185) ?_
          show Steps p.tables e below (T36.setTop (mkF m 186 #[.val (.int i0), .val (.int i1), .val (.int i2), .val (.int (own_m i0)), .val (.int (own_m i1)), .val (.int (own_m i2)), .val (.int (own_u (own_m i1) (own_m i0))), .val (.ref b2), .val (.ref b12), .val (.double (FP.ddiv (FP.i2d (own_u (own_m i1) (own_m i0))) (FP.i2d (own_m i0)))), .second, .val (.double (FP.ddiv (FP.i2d (own_m i2)) (FP.i2d (own_m i0)))), .second, .val (.int (1 : Int32)), .val (.int (1 : Int32))] [(.int (1 : Int32))])) _
          refine XS.goto X36.here hx rfl (pc0 := 186) (pc' := 190) rfl (hb hby at_186) (by decide) (by decide) ?_
          exact kt
        obtain ⟨fs, hr, hrun, hended, hWE⟩ := Stand.leaveW (s := s) (vm₁ := T20.vm) X36 hS20 (by rw [c36_0]; exact (Nat.le_refl _)) (v := some (.int (1 : Int32))) (fun h => by rw [Bd.returns] at h; cases h)
        refine ⟨_, _, pre0 _ ?_, hrun, hended, _, _, rfl, ?_, hWE.1, hWE.2.1, hWE.2.2.1, hWE.2.2.2.mono (by decide) (by decide)⟩
        · show Steps p.tables e below (s₁.setTop (mkF m 0 #[.val (.int i0), .val (.int i1), .val (.int i2), .unset, .unset, .unset, .unset, .unset, .unset, .unset, .unset, .unset, .unset, .unset, .unset] [])) _
          refine sg1 _ ?_
          refine st2 _ ?_
          refine sg6 _ ?_
          refine st7.trans ?_
          refine sg11 _ ?_
          refine st12 _ ?_
          refine sg19 _ ?_
          refine st20.trans ?_
          refine sg27 _ ?_
          refine sg33 _ ?_
          refine st34.trans ?_
          refine sg35 _ ?_
          refine st36.trans ?_
          refine sg37 _ ?_
          refine sg39 _ ?_
          refine sg40 _ ?_
          show Steps p.tables e below (T36.setTop (mkF m 190 #[.val (.int i0), .val (.int i1), .val (.int i2), .val (.int (own_m i0)), .val (.int (own_m i1)), .val (.int (own_m i2)), .val (.int (own_u (own_m i1) (own_m i0))), .val (.ref b2), .val (.ref b12), .val (.double (FP.ddiv (FP.i2d (own_u (own_m i1) (own_m i0))) (FP.i2d (own_m i0)))), .second, .val (.double (FP.ddiv (FP.i2d (own_m i2)) (FP.i2d (own_m i0)))), .second, .val (.int (1 : Int32)), .val (.int (1 : Int32))] [(.int (1 : Int32))])) _
          exact retN X36 hx (t := .boolean) Bd.returns (by simp) (hb hby at_190) hr
        · show Q_rm0 Z i0 i1 i2 h0 n0 _ T36.heap _
          rw [c36_0]
          exact ⟨rfl, N36⟩
set_option maxRecDepth 65536 in
set_option maxHeartbeats 40000000 in
theorem comes_1 {Post : Tables → Env → Array Value → State → Outcome → State → Prop} (hpost : ∀ tb e args s v u, (limb_1_1.after args s (.returned v) u = true ∧ limb_1_2.after args s (.returned v) u = true ∧ True) → ReturnedEndW s (.returned v) u (Jvm.fieldLocs frame_1_writes args s ++ Jvm.arrayLocs frame_1_arrays args s ++ Jvm.staticLocs frame_1_statics s) 16 2176 → Post tb e args s (.returned v) u) :
    ArmFor flags0 classFile x code maxLocals ret World_1 tables_1 room_1 Calls_1 rest_1 Pre_1 Post := by
  intro l hfl _ _ p e ha hc hk s m args below hf hA hF happ hP
  obtain ⟨hcalls, hrest, hpre⟩ := hP
  obtain ⟨-, -, -, hnamed, -, -, -, hat⟩ := (Spec.applies_iff hf).mp happ
  obtain ⟨hg, hn⟩ := and_e (Cond.before_iff.mp (show (Jvm.Cond.and given_1 narrow_1).before args s = true from hpre))
  obtain ⟨g1, g2⟩ := and_e hg
  obtain ⟨g3, g4⟩ := and_e g2
  obtain ⟨g5, g6⟩ := and_e g4
  obtain ⟨w0, w1, w2, rfl⟩ : ∃ w0 w1 w2 : Value, args = #[w0, w1, w2] := by
    have hs : args.size = 3 := by simpa [Cond.value, given_1] using g1
    obtain ⟨L⟩ := args
    match L, hs with
    | [w0, w1, w2], _ => exact ⟨w0, w1, w2, rfl⟩
  have hw := fun d (hd : d ∈ tables_1) => atoms_spec (ws := Jvm.Cond.code x code maxLocals ret :: tables_1) hat d (List.mem_cons_of_mem _ hd)
  have hfit : Fit s := fun {y c} hc i hi => by
    obtain ⟨ha, rfl⟩ := Array.getElem?_eq_some_iff.mp hc
    have q := List.all_eq_true.mp ((Array.all_eq_true_iff_forall_mem.mp hF) _ (Array.getElem_mem ha)) i (List.mem_range.mpr hi)
    simpa [Array.getElem?_eq_getElem hi] using q
  obtain ⟨i0, ei0⟩ := is_v g3
  obtain rfl : w0 = (.int i0) := Option.some.inj ei0
  obtain ⟨i1, ei1⟩ := is_v g5
  obtain rfl : w1 = (.int i1) := Option.some.inj ei1
  obtain ⟨i2, ei2⟩ := is_v g6
  obtain rfl : w2 = (.int i2) := Option.some.inj ei2
  obtain ⟨n, o, h1, h2, h3, _, L, rfl, ⟨rfl, N⟩, hq⟩ := rm0 l s _ hw tables_1 i0 i1 i2 s.heap s.heap.size (Nat.le_refl _)  p e ha hc hk s m _ below hf ((Spec.applies_iff_loose hf).mp happ).1 ⟨rfl, State.Warmed39.refl s, rfl⟩ trivial
  refine ⟨n, _, h1, h2, h3, hpost _ _ _ _ _ _ ⟨Cond.after_iff.mpr rfl, Cond.after_iff.mpr (eq_i res_at (Term.int_eval (1)) rfl), trivial⟩ ⟨hq.1, hq.2.1, hq.2.2.1, (hq.2.2.2.sift fun y hy => Or.inr (N y hy)).mono (by decide) (by decide)⟩⟩
theorem main_1_1 : Claimed_1_1 := comes_1 fun _ _ _ _ _ _ h hF => ⟨h.1, hF⟩
theorem main_1_2 : Claimed_1_2 := comes_1 fun _ _ _ _ _ _ h hF => ⟨h.2.1, hF⟩
end Jvm.Pilot.@@N@@
namespace Jvm.Pilot.@@N@@
open Jvm Jvm.ClassFile Sem Op Lib Jvm.Free Jvm.Stand Jvm.Pilot.@@N@@.Jvm.D
/-! MADE BY PROGRAM (witnessworld.py) out of the Statement's table words and the real class files: 19 classes; the members and pool entries that the words name. The judged class is class 1, her method 1. -/
namespace start1
open Jvm.ClassFile
def u (s : String) : CpInfo := .utf8 (stringToUtf16 s)
/-- a pool by its gaps: so many unusable entries, then the entry; so many at the end -/
def gap : Nat → List CpInfo → List CpInfo
  | 0, r => r
  | n + 1, r => .unusable :: gap n r
def poolList (es : List (Nat × CpInfo)) (last : Nat) : List CpInfo := es.foldr (fun e r => gap e.1 (e.2 :: r)) (gap last [])
def pool (es : List (Nat × CpInfo)) (last : Nat) : Array CpInfo := ⟨poolList es last⟩
def fileOf (pool : Array CpInfo) (this : Nat) (attrs : Array Attribute := #[]) (ms : Array MethodInfo := #[]) (fl : Nat := 33) (sup : Nat := 0) (ifs : Array Nat := #[]) (fds : Array FieldInfo := #[]) : ClassFile where
  minorVersion := 0
  majorVersion := 65
  constantPool := pool
  accessFlags := fl
  thisClass := this
  superClass := sup
  interfaces := ifs
  fields := fds
  methods := ms
  attributes := attrs
def plain (name : String) (sup : Option ClassId) : Class where
  name := name
  kind := .ordinary
  loader := none
  accessFlags := 33
  super := sup
  interfaces := #[]
  cf := none
  fields := #[]
  methods := #[]
  instanceTypes := #[]
  staticTypes := #[]
  resolved := #[]
  callSites := []
  init := .initialized
  statics := none
  mirror := none

def pool0 : Array CpInfo := pool [(5, u "<init>"), (0, u "()V"), (1, .class_ 10), (1, u "java/lang/Object")] 113

def k0c0 : Code := { maxStack := 0, maxLocals := 1, code := object_method_1_code, exceptionTable := #[], attributes := #[] }
def k0m0 : Method := { name := "<init>", desc := "()V", sig := { parameters := [], returnType := none }, accessFlags := 1, code := some k0c0 }
/-- java/lang/Object -/
def k0 : Class := { plain "java/lang/Object" none with
  accessFlags := 33
  interfaces := #[]
  cf := some (fileOf pool0 8 #[] #[{ accessFlags := 1, nameIndex := 5, descriptorIndex := 6, attributes := #[] }] 33 0 #[] #[])
  fields := #[]
  methods := #[k0m0]
  instanceTypes := #[]
  staticTypes := #[]
  resolved := Array.replicate 124 none
  statics := none }

def pool1 : Array CpInfo := pool [(2, .class_ 4), (1, u "java/lang/Object"), (0, u "<init>"), (0, u "()V"), (0, .class_ 8), (0, u "com/example/headroom/headroom/ResourceUsage"), (0, .methodref 7 10), (0, .nameAndType 5 11), (0, u "(DD)V"), (0, .methodref 7 13), (0, .nameAndType 14 15), (0, u "fraction"), (0, u "()D"), (0, .class_ 17), (0, u "com/example/headroom/headroom/ResourceUsageFractionPinLaw"), (2, u "law"), (0, u "(III)Z")] 3

def k1m0 : Method := { name := "<init>", desc := "()V", sig := { parameters := [], returnType := none }, accessFlags := 1, code := none }
def k1c1 : Code := { maxStack := 6, maxLocals := 15, code := code, exceptionTable := #[], attributes := #[] }
def k1m1 : Method := { name := "law", desc := "(III)Z", sig := { parameters := [.int, .int, .int], returnType := some .boolean }, accessFlags := 9, code := some k1c1 }
/-- com/example/headroom/headroom/ResourceUsageFractionPinLaw -/
def k1 : Class := { plain "com/example/headroom/headroom/ResourceUsageFractionPinLaw" (some 0) with
  accessFlags := 49
  interfaces := #[]
  cf := some (fileOf pool1 16 #[] #[{ accessFlags := 1, nameIndex := 5, descriptorIndex := 6, attributes := #[] }, { accessFlags := 9, nameIndex := 20, descriptorIndex := 21, attributes := #[] }] 49 2 #[] #[])
  fields := #[]
  methods := #[k1m0, k1m1]
  instanceTypes := #[]
  staticTypes := #[]
  resolved := Array.replicate 25 none
  statics := none }

def pool2 : Array CpInfo := pool [(1, .methodref 2 3), (0, .class_ 4), (0, .nameAndType 5 6), (0, u "java/lang/Object"), (0, u "<init>"), (0, u "()V"), (0, .class_ 8), (0, u "java/lang/Record")] 13

def k2c0 : Code := { maxStack := 1, maxLocals := 1, code := jdk_30_method_1_code, exceptionTable := #[], attributes := #[] }
def k2m0 : Method := { name := "<init>", desc := "()V", sig := { parameters := [], returnType := none }, accessFlags := 4, code := some k2c0 }
/-- java/lang/Record -/
def k2 : Class := { plain "java/lang/Record" (some 0) with
  accessFlags := 1057
  interfaces := #[]
  cf := some (fileOf pool2 7 #[] #[{ accessFlags := 4, nameIndex := 5, descriptorIndex := 6, attributes := #[] }] 1057 2 #[] #[])
  fields := #[]
  methods := #[k2m0]
  instanceTypes := #[]
  staticTypes := #[]
  resolved := Array.replicate 22 none
  statics := none }

def pool3 : Array CpInfo := pool [(1, .methodref 2 3), (0, .class_ 4), (0, .nameAndType 5 6), (0, u "java/lang/Record"), (0, u "<init>"), (0, u "()V"), (0, .string 8), (0, u "usage"), (0, .methodref 10 11), (0, .class_ 12), (0, .nameAndType 13 14), (0, u "com/example/headroom/headroom/Figures"), (0, u "requireNonNegative"), (0, u "(Ljava/lang/String;D)V"), (0, .string 16), (0, u "limit"), (0, .fieldref 18 19), (0, .class_ 20), (0, .nameAndType 8 21), (0, u "com/example/headroom/headroom/ResourceUsage"), (0, u "D"), (0, .fieldref 18 23), (0, .nameAndType 16 21), (14, u "(DD)V"), (2, u "NONE"), (0, u "Lcom/example/headroom/headroom/ResourceUsage;"), (3, u "fraction"), (0, u "()D")] 26

def k3c0 : Code := { maxStack := 3, maxLocals := 5, code := prog_20_method_1_code, exceptionTable := #[], attributes := #[] }
def k3m0 : Method := { name := "<init>", desc := "(DD)V", sig := { parameters := [.double, .double], returnType := none }, accessFlags := 1, code := some k3c0 }
def k3c1 : Code := { maxStack := 4, maxLocals := 1, code := prog_20_method_2_code, exceptionTable := #[], attributes := #[] }
def k3m1 : Method := { name := "fraction", desc := "()D", sig := { parameters := [], returnType := some .double }, accessFlags := 1, code := some k3c1 }
/-- com/example/headroom/headroom/ResourceUsage -/
def k3 : Class := { plain "com/example/headroom/headroom/ResourceUsage" (some 2) with
  accessFlags := 49
  interfaces := #[]
  cf := some (fileOf pool3 18 #[] #[{ accessFlags := 1, nameIndex := 5, descriptorIndex := 38, attributes := #[] }, { accessFlags := 1, nameIndex := 46, descriptorIndex := 47, attributes := #[] }] 49 2 #[] #[{ accessFlags := 18, nameIndex := 8, descriptorIndex := 21, attributes := #[] }, { accessFlags := 18, nameIndex := 16, descriptorIndex := 21, attributes := #[] }, { accessFlags := 25, nameIndex := 41, descriptorIndex := 42, attributes := #[] }])
  fields := #[{ name := "usage", type := .double, accessFlags := 18, slot := 0, constantValue := 0 }, { name := "limit", type := .double, accessFlags := 18, slot := 1, constantValue := 0 }, { name := "NONE", type := (.object "com/example/headroom/headroom/ResourceUsage"), accessFlags := 25, slot := 0, constantValue := 0 }]
  methods := #[k3m0, k3m1]
  instanceTypes := #[.double, .double]
  staticTypes := #[(.object "com/example/headroom/headroom/ResourceUsage")]
  resolved := Array.replicate 74 none
  statics := none }

def pool4 : Array CpInfo := pool [(1, .class_ 2), (0, u "java/io/Serializable"), (0, .class_ 4), (0, u "java/lang/Object")] 2

/-- java/io/Serializable -/
def k4 : Class := { plain "java/io/Serializable" (some 0) with
  accessFlags := 1537
  interfaces := #[]
  cf := some (fileOf pool4 1 #[] #[] 1537 3 #[] #[])
  fields := #[]
  methods := #[]
  instanceTypes := #[]
  staticTypes := #[]
  resolved := Array.replicate 7 none
  statics := none }

def pool5 : Array CpInfo := pool [(1, .class_ 2), (0, u "java/lang/Comparable"), (0, .class_ 4), (0, u "java/lang/Object")] 7

/-- java/lang/Comparable -/
def k5 : Class := { plain "java/lang/Comparable" (some 0) with
  accessFlags := 1537
  interfaces := #[]
  cf := some (fileOf pool5 1 #[] #[] 1537 3 #[] #[])
  fields := #[]
  methods := #[]
  instanceTypes := #[]
  staticTypes := #[]
  resolved := Array.replicate 12 none
  statics := none }

def pool6 : Array CpInfo := pool [(2, .class_ 4), (1, u "java/lang/CharSequence"), (42, .class_ 48), (0, u "java/lang/CharSequence$1CodePointIterator"), (10, .class_ 60), (0, u "java/lang/CharSequence$1CharIterator"), (5, .class_ 67), (0, u "java/lang/Object")] 63

/-- java/lang/CharSequence -/
def k6 : Class := { plain "java/lang/CharSequence" (some 0) with
  accessFlags := 1537
  interfaces := #[]
  cf := some (fileOf pool6 2 #[.nestMembers #[47, 59]] #[] 1537 66 #[] #[])
  fields := #[]
  methods := #[]
  instanceTypes := #[]
  staticTypes := #[]
  resolved := Array.replicate 131 none
  statics := none }

def pool7 : Array CpInfo := pool [(1, .class_ 2), (0, u "java/lang/constant/Constable"), (0, .class_ 4), (0, u "java/lang/Object")] 6

/-- java/lang/constant/Constable -/
def k7 : Class := { plain "java/lang/constant/Constable" (some 0) with
  accessFlags := 1537
  interfaces := #[]
  cf := some (fileOf pool7 1 #[] #[] 1537 3 #[] #[])
  fields := #[]
  methods := #[]
  instanceTypes := #[]
  staticTypes := #[]
  resolved := Array.replicate 11 none
  statics := none }

def pool8 : Array CpInfo := pool [(1, .class_ 2), (0, u "java/lang/constant/ConstantDesc"), (0, .class_ 4), (0, u "java/lang/Object")] 32

/-- java/lang/constant/ConstantDesc -/
def k8 : Class := { plain "java/lang/constant/ConstantDesc" (some 0) with
  accessFlags := 1537
  interfaces := #[]
  cf := some (fileOf pool8 1 #[] #[] 1537 3 #[] #[])
  fields := #[]
  methods := #[]
  instanceTypes := #[]
  staticTypes := #[]
  resolved := Array.replicate 37 none
  statics := none }

def pool9 : Array CpInfo := pool [(2, .class_ 4), (1, u "java/lang/Object"), (0, u "<init>"), (0, u "()V"), (3, .class_ 12), (1, u "java/lang/String"), (0, u "value"), (0, u "[B"), (2, u "coder"), (0, u "B"), (2, u "hash"), (0, u "I"), (2, u "hashIsZero"), (0, u "Z"), (13, u "COMPACT_STRINGS"), (534, .class_ 576), (0, u "java/lang/CharSequence"), (22, u "CASE_INSENSITIVE_ORDER"), (0, u "Ljava/util/Comparator;"), (500, u "serialPersistentFields"), (0, u "[Ljava/io/ObjectStreamField;"), (0, .class_ 1104), (0, u "java/lang/String$CaseInsensitiveComparator"), (1, .class_ 1107), (0, u "java/io/Serializable"), (0, .class_ 1109), (0, u "java/lang/Comparable"), (0, .class_ 1111), (0, u "java/lang/constant/Constable"), (0, .class_ 1113), (0, u "java/lang/constant/ConstantDesc"), (2, u "serialVersionUID"), (0, u "J"), (3, u "REPL"), (0, u "C"), (2, u "LATIN1"), (1, u "UTF16")] 323

def k9m0 : Method := { name := "<init>", desc := "()V", sig := { parameters := [], returnType := none }, accessFlags := 1, code := none }
/-- java/lang/String -/
def k9 : Class := { plain "java/lang/String" (some 0) with
  accessFlags := 49
  interfaces := #[4, 5, 6, 7, 8]
  cf := some (fileOf pool9 10 #[.nestMembers #[1103]] #[{ accessFlags := 1, nameIndex := 5, descriptorIndex := 6, attributes := #[] }] 49 2 #[1106, 1108, 575, 1110, 1112] #[{ accessFlags := 18, nameIndex := 13, descriptorIndex := 14, attributes := #[] }, { accessFlags := 18, nameIndex := 17, descriptorIndex := 18, attributes := #[] }, { accessFlags := 2, nameIndex := 21, descriptorIndex := 22, attributes := #[] }, { accessFlags := 2, nameIndex := 25, descriptorIndex := 26, attributes := #[] }, { accessFlags := 26, nameIndex := 1116, descriptorIndex := 1117, attributes := #[] }, { accessFlags := 24, nameIndex := 40, descriptorIndex := 26, attributes := #[] }, { accessFlags := 26, nameIndex := 1101, descriptorIndex := 1102, attributes := #[] }, { accessFlags := 26, nameIndex := 1121, descriptorIndex := 1122, attributes := #[] }, { accessFlags := 25, nameIndex := 599, descriptorIndex := 600, attributes := #[] }, { accessFlags := 24, nameIndex := 1125, descriptorIndex := 18, attributes := #[] }, { accessFlags := 24, nameIndex := 1127, descriptorIndex := 18, attributes := #[] }])
  fields := #[{ name := "value", type := (.array .byte), accessFlags := 18, slot := 0, constantValue := 0 }, { name := "coder", type := .byte, accessFlags := 18, slot := 1, constantValue := 0 }, { name := "hash", type := .int, accessFlags := 2, slot := 2, constantValue := 0 }, { name := "hashIsZero", type := .boolean, accessFlags := 2, slot := 3, constantValue := 0 }, { name := "serialVersionUID", type := .long, accessFlags := 26, slot := 0, constantValue := 0 }, { name := "COMPACT_STRINGS", type := .boolean, accessFlags := 24, slot := 1, constantValue := 0 }, { name := "serialPersistentFields", type := (.array (.object "java/io/ObjectStreamField")), accessFlags := 26, slot := 2, constantValue := 0 }, { name := "REPL", type := .char, accessFlags := 26, slot := 3, constantValue := 0 }, { name := "CASE_INSENSITIVE_ORDER", type := (.object "java/util/Comparator"), accessFlags := 25, slot := 4, constantValue := 0 }, { name := "LATIN1", type := .byte, accessFlags := 24, slot := 5, constantValue := 0 }, { name := "UTF16", type := .byte, accessFlags := 24, slot := 6, constantValue := 0 }]
  methods := #[k9m0]
  instanceTypes := #[(.array .byte), .byte, .int, .boolean]
  staticTypes := #[.long, .boolean, (.array (.object "java/io/ObjectStreamField")), .char, (.object "java/util/Comparator"), .byte, .byte]
  resolved := Array.replicate 1451 none
  statics := none }

def pool10 : Array CpInfo := pool [(2, .class_ 4), (1, u "java/lang/Object"), (0, u "<init>"), (0, u "()V"), (0, .methodref 8 9), (0, .class_ 10), (0, .nameAndType 11 12), (0, u "java/lang/Double"), (0, u "isFinite"), (0, u "(D)Z"), (10, .class_ 24), (0, u "com/example/headroom/headroom/Figures"), (2, u "requireNonNegative"), (0, u "(Ljava/lang/String;D)V")] 21

def k10m0 : Method := { name := "<init>", desc := "()V", sig := { parameters := [], returnType := none }, accessFlags := 2, code := none }
def k10c1 : Code := { maxStack := 5, maxLocals := 3, code := prog_15_method_2_code, exceptionTable := #[], attributes := #[] }
def k10m1 : Method := { name := "requireNonNegative", desc := "(Ljava/lang/String;D)V", sig := { parameters := [(.object "java/lang/String"), .double], returnType := none }, accessFlags := 8, code := some k10c1 }
/-- com/example/headroom/headroom/Figures -/
def k10 : Class := { plain "com/example/headroom/headroom/Figures" (some 0) with
  accessFlags := 32
  interfaces := #[]
  cf := some (fileOf pool10 23 #[] #[{ accessFlags := 2, nameIndex := 5, descriptorIndex := 6, attributes := #[] }, { accessFlags := 8, nameIndex := 27, descriptorIndex := 28, attributes := #[] }] 32 2 #[] #[])
  fields := #[]
  methods := #[k10m0, k10m1]
  instanceTypes := #[]
  staticTypes := #[]
  resolved := Array.replicate 50 none
  statics := none }

def pool11 : Array CpInfo := pool [(2, .class_ 4), (1, u "java/lang/Object"), (0, u "<init>"), (0, u "()V"), (1, .class_ 10), (1, u "java/lang/Number"), (2, .class_ 14), (0, u "java/io/Serializable"), (0, u "serialVersionUID"), (0, u "J")] 20

def k11m0 : Method := { name := "<init>", desc := "()V", sig := { parameters := [], returnType := none }, accessFlags := 1, code := none }
/-- java/lang/Number -/
def k11 : Class := { plain "java/lang/Number" (some 0) with
  accessFlags := 1057
  interfaces := #[4]
  cf := some (fileOf pool11 8 #[] #[{ accessFlags := 1, nameIndex := 5, descriptorIndex := 6, attributes := #[] }] 1057 2 #[13] #[{ accessFlags := 26, nameIndex := 15, descriptorIndex := 16, attributes := #[] }])
  fields := #[{ name := "serialVersionUID", type := .long, accessFlags := 26, slot := 0, constantValue := 0 }]
  methods := #[k11m0]
  instanceTypes := #[]
  staticTypes := #[.long]
  resolved := Array.replicate 37 none
  statics := none }

def pool12 : Array CpInfo := pool [(1, .class_ 2), (0, u "java/lang/Double"), (10, u "isFinite"), (0, u "(D)Z"), (8, .class_ 25), (1, u "java/lang/Math"), (12, .methodref 23 39), (0, .nameAndType 40 41), (0, u "abs"), (0, u "(D)D"), (69, .double 9218868437227405311), (2, .class_ 116), (1, u "java/lang/Number"), (3, u "value"), (0, u "D"), (51, u "TYPE"), (0, u "Ljava/lang/Class;"), (0, .class_ 176), (0, u "java/lang/Comparable"), (0, .class_ 178), (0, u "java/lang/constant/Constable"), (0, .class_ 180), (0, u "java/lang/constant/ConstantDesc"), (0, u "POSITIVE_INFINITY"), (3, u "NEGATIVE_INFINITY"), (2, u "NaN"), (2, u "MAX_VALUE"), (0, u "MIN_NORMAL"), (0, u "MIN_VALUE"), (2, u "SIZE"), (0, u "I"), (1, u "PRECISION"), (1, u "MAX_EXPONENT"), (1, u "MIN_EXPONENT"), (1, u "BYTES"), (3, u "serialVersionUID"), (0, u "J")] 79

def k12c0 : Code := { maxStack := 4, maxLocals := 2, code := jdk_117_method_8_code, exceptionTable := #[], attributes := #[] }
def k12m0 : Method := { name := "isFinite", desc := "(D)Z", sig := { parameters := [.double], returnType := some .boolean }, accessFlags := 9, code := some k12c0 }
/-- java/lang/Double -/
def k12 : Class := { plain "java/lang/Double" (some 11) with
  accessFlags := 49
  interfaces := #[5, 7, 8]
  cf := some (fileOf pool12 1 #[] #[{ accessFlags := 9, nameIndex := 13, descriptorIndex := 14, attributes := #[] }] 49 114 #[175, 177, 179] #[{ accessFlags := 25, nameIndex := 181, descriptorIndex := 121, attributes := #[] }, { accessFlags := 25, nameIndex := 185, descriptorIndex := 121, attributes := #[] }, { accessFlags := 25, nameIndex := 188, descriptorIndex := 121, attributes := #[] }, { accessFlags := 25, nameIndex := 191, descriptorIndex := 121, attributes := #[] }, { accessFlags := 25, nameIndex := 192, descriptorIndex := 121, attributes := #[] }, { accessFlags := 25, nameIndex := 193, descriptorIndex := 121, attributes := #[] }, { accessFlags := 25, nameIndex := 196, descriptorIndex := 197, attributes := #[] }, { accessFlags := 25, nameIndex := 199, descriptorIndex := 197, attributes := #[] }, { accessFlags := 25, nameIndex := 201, descriptorIndex := 197, attributes := #[] }, { accessFlags := 25, nameIndex := 203, descriptorIndex := 197, attributes := #[] }, { accessFlags := 25, nameIndex := 205, descriptorIndex := 197, attributes := #[] }, { accessFlags := 25, nameIndex := 173, descriptorIndex := 174, attributes := #[] }, { accessFlags := 18, nameIndex := 120, descriptorIndex := 121, attributes := #[] }, { accessFlags := 26, nameIndex := 209, descriptorIndex := 210, attributes := #[] }])
  fields := #[{ name := "POSITIVE_INFINITY", type := .double, accessFlags := 25, slot := 0, constantValue := 0 }, { name := "NEGATIVE_INFINITY", type := .double, accessFlags := 25, slot := 1, constantValue := 0 }, { name := "NaN", type := .double, accessFlags := 25, slot := 2, constantValue := 0 }, { name := "MAX_VALUE", type := .double, accessFlags := 25, slot := 3, constantValue := 0 }, { name := "MIN_NORMAL", type := .double, accessFlags := 25, slot := 4, constantValue := 0 }, { name := "MIN_VALUE", type := .double, accessFlags := 25, slot := 5, constantValue := 0 }, { name := "SIZE", type := .int, accessFlags := 25, slot := 6, constantValue := 0 }, { name := "PRECISION", type := .int, accessFlags := 25, slot := 7, constantValue := 0 }, { name := "MAX_EXPONENT", type := .int, accessFlags := 25, slot := 8, constantValue := 0 }, { name := "MIN_EXPONENT", type := .int, accessFlags := 25, slot := 9, constantValue := 0 }, { name := "BYTES", type := .int, accessFlags := 25, slot := 10, constantValue := 0 }, { name := "TYPE", type := (.object "java/lang/Class"), accessFlags := 25, slot := 11, constantValue := 0 }, { name := "value", type := .double, accessFlags := 18, slot := 0, constantValue := 0 }, { name := "serialVersionUID", type := .long, accessFlags := 26, slot := 12, constantValue := 0 }]
  methods := #[k12m0]
  instanceTypes := #[.double]
  staticTypes := #[.double, .double, .double, .double, .double, .double, .int, .int, .int, .int, .int, (.object "java/lang/Class"), .long]
  resolved := Array.replicate 290 none
  statics := none }

def pool13 : Array CpInfo := pool [(1, .class_ 2), (0, u "java/lang/Math"), (1, .class_ 6), (1, u "java/lang/Object"), (0, u "<init>"), (0, u "()V"), (5, u "(D)D"), (83, .class_ 100), (1, u "java/lang/Math$RandomNumberGeneratorHolder"), (23, u "abs"), (47, u "negativeZeroFloatBits"), (0, u "J"), (2, u "negativeZeroDoubleBits"), (68, u "$assertionsDisabled"), (0, u "Z"), (91, u "twoToTheDoubleScaleDown"), (0, u "D"), (4, u "twoToTheDoubleScaleUp"), (9, u "E"), (3, u "PI"), (2, u "TAU"), (2, u "DEGREES_TO_RADIANS"), (0, u "RADIANS_TO_DEGREES")] 94

def k13m0 : Method := { name := "<init>", desc := "()V", sig := { parameters := [], returnType := none }, accessFlags := 2, code := none }
def k13c1 : Code := { maxStack := 4, maxLocals := 2, code := jdk_29_method_64_code, exceptionTable := #[], attributes := #[] }
def k13m1 : Method := { name := "abs", desc := "(D)D", sig := { parameters := [.double], returnType := some .double }, accessFlags := 9, code := some k13c1 }
/-- java/lang/Math -/
def k13 : Class := { plain "java/lang/Math" (some 0) with
  accessFlags := 49
  interfaces := #[]
  cf := some (fileOf pool13 1 #[.nestMembers #[98]] #[{ accessFlags := 2, nameIndex := 7, descriptorIndex := 8, attributes := #[] }, { accessFlags := 9, nameIndex := 124, descriptorIndex := 14, attributes := #[] }] 49 4 #[] #[{ accessFlags := 25, nameIndex := 354, descriptorIndex := 339, attributes := #[] }, { accessFlags := 25, nameIndex := 358, descriptorIndex := 339, attributes := #[] }, { accessFlags := 25, nameIndex := 361, descriptorIndex := 339, attributes := #[] }, { accessFlags := 26, nameIndex := 364, descriptorIndex := 339, attributes := #[] }, { accessFlags := 26, nameIndex := 365, descriptorIndex := 339, attributes := #[] }, { accessFlags := 26, nameIndex := 172, descriptorIndex := 173, attributes := #[] }, { accessFlags := 26, nameIndex := 176, descriptorIndex := 173, attributes := #[] }, { accessFlags := 8, nameIndex := 344, descriptorIndex := 339, attributes := #[] }, { accessFlags := 8, nameIndex := 338, descriptorIndex := 339, attributes := #[] }, { accessFlags := 4120, nameIndex := 245, descriptorIndex := 246, attributes := #[] }])
  fields := #[{ name := "E", type := .double, accessFlags := 25, slot := 0, constantValue := 0 }, { name := "PI", type := .double, accessFlags := 25, slot := 1, constantValue := 0 }, { name := "TAU", type := .double, accessFlags := 25, slot := 2, constantValue := 0 }, { name := "DEGREES_TO_RADIANS", type := .double, accessFlags := 26, slot := 3, constantValue := 0 }, { name := "RADIANS_TO_DEGREES", type := .double, accessFlags := 26, slot := 4, constantValue := 0 }, { name := "negativeZeroFloatBits", type := .long, accessFlags := 26, slot := 5, constantValue := 0 }, { name := "negativeZeroDoubleBits", type := .long, accessFlags := 26, slot := 6, constantValue := 0 }, { name := "twoToTheDoubleScaleUp", type := .double, accessFlags := 8, slot := 7, constantValue := 0 }, { name := "twoToTheDoubleScaleDown", type := .double, accessFlags := 8, slot := 8, constantValue := 0 }, { name := "$assertionsDisabled", type := .boolean, accessFlags := 4120, slot := 9, constantValue := 0 }]
  methods := #[k13m0, k13m1]
  instanceTypes := #[]
  staticTypes := #[.double, .double, .double, .double, .double, .long, .long, .double, .double, .boolean]
  resolved := Array.replicate 460 none
  statics := none }

def pool14 : Array CpInfo := pool [(1, u "java/lang/Cloneable"), (0, .class_ 1), (0, u "java/lang/Object"), (0, .class_ 3)] 3

/-- java/lang/Cloneable -/
def k14 : Class := { plain "java/lang/Cloneable" (some 0) with
  accessFlags := 1537
  interfaces := #[]
  cf := some (fileOf pool14 2 #[] #[] 1537 4 #[] #[])
  fields := #[]
  methods := #[]
  instanceTypes := #[]
  staticTypes := #[]
  resolved := Array.replicate 8 none
  statics := none }

/-- the primitive byte -/
def k15 : Class := { plain "byte" none with kind := .primitive 'B', accessFlags := 0x411 }
/-- [B -/
def k16 : Class := { plain "[B" (some 0) with kind := .array 15 .byte, interfaces := #[14, 4], accessFlags := 1041 }

/-- the primitive int -/
def k17 : Class := { plain "int" none with kind := .primitive 'I', accessFlags := 0x411 }
/-- [I -/
def k18 : Class := { plain "[I" (some 0) with kind := .array 17 .int, interfaces := #[14, 4], accessFlags := 1041 }

def heap : Heap := #[]
def classes : Array Class := #[k0, k1, k2, k3, k4, k5, k6, k7, k8, k9, k10, k11, k12, k13, k14, k15, k16, k17, k18]
def interned : List (Array UInt16 × Addr) := []
def slotsUsed : Nat := 0
def theMethod : MethodId := ⟨1, 1⟩
def args0 : Array Value := #[.int 5, .int 5, .int 5]
def aboutOver (below : List Frame) : State where
  vm := { classes := classes, interned := interned.toArray }
  heap := heap
  slotsUsed := slotsUsed
  threads := #[{ frames := .invoking theMethod args0 :: below }]
def below0 : List Frame := [.native { method := ⟨0, 0⟩, args := #[] }]
def about1 : State := aboutOver below0
def p0 : Program := .bare "" "" ""
def e0 : Env := launch0.env 0 0 0
theorem w_frames : about1.frames = Frame.invoking theMethod args0 :: below0 := rfl
set_option maxRecDepth 65536 in
theorem w_args : argsFit about1.vm theMethod args0 = true := by decide +kernel
set_option maxRecDepth 65536 in
theorem w_heap : heapFits about1 = true := by decide +kernel
set_option maxRecDepth 65536 in
theorem w_runnable : about1.curStatus? = some .runnable := by decide +kernel
set_option maxRecDepth 65536 in
theorem w_alone : about1.alone = true := by decide +kernel
set_option maxRecDepth 65536 in
theorem w_named : about1.methodNamed? x = some theMethod := by decide +kernel
set_option maxRecDepth 65536 in
theorem w_hears : about1.hears theMethod below0 = true := by decide +kernel
set_option maxRecDepth 65536 in
theorem w_ripe : about1.ripe theMethod args0 below0 = true := by decide +kernel
theorem w_running : about1.status = .running := rfl
set_option maxRecDepth 65536 in
theorem w_room : about1.hasRoom e0.platform room_1 = true :=
  launch0.hasRoom_least _ room_1 (by decide +kernel) (by decide +kernel) (by decide +kernel) (by decide +kernel) (by decide +kernel) (by decide +kernel)
theorem allAtoms_all (ts : List Jvm.Cond) (a : Array Jvm.Value) (st : Jvm.State) : (allAtoms ts).before a st = ts.all (fun c => c.before a st) := by
  induction ts with
  | nil => rfl
  | cons c t ih =>
    show (Jvm.Cond.and c (allAtoms t)).before a st = _
    rw [Jvm.Cond.before_and, ih, List.all_cons]
def words1 : List Jvm.Cond := Jvm.Cond.code x code maxLocals ret :: tables_1
/-- a 'code' word, met by the world's own term for the bytes: nothing is compared byte by byte -/
theorem code_word {y : MethodName} {bytes : ByteArray} {mx : Nat} {rt : Option FieldType} {a : Array Value} {s : State} {m : MethodId} {meth : Method} {c : Code} (h1 : s.methodNamed? y = some m) (h2 : s.vm.method? m = some meth) (h3 : meth.code = some c) (h4 : c.code = bytes)
    (h5 : (c.maxLocals == mx && c.exceptionTable.isEmpty && decide (c.maxStack ≤ mostOperands) && decide (meth.sig.returnType = rt) && !meth.locks && decide (parseMethodDescriptor y.desc = some meth.sig)) = true) : (Jvm.Cond.code y bytes mx rt).before a s = true := by
  simp only [Bool.and_eq_true, beq_iff_eq, Bool.not_eq_true', decide_eq_true_eq] at h5
  obtain ⟨⟨⟨⟨⟨g1, g2⟩, g3⟩, g4⟩, g5⟩, g6⟩ := h5
  simp [Cond.before, Cond.holds, Cond.value, h1, h2, h3, h4, g1, g2, g3, g4, g5, g6]
def isCode : Jvm.Cond → Bool
  | .code _ _ _ _ => true
  | _ => false
theorem all_split {L : List Jvm.Cond} {P : Jvm.Cond → Bool} (h1 : L.all (fun c => isCode c || P c) = true) (h2 : ∀ c ∈ L.filter isCode, P c = true) : L.all P = true := by
  refine List.all_eq_true.mpr fun c hc => ?_
  have h := List.all_eq_true.mp h1 c hc
  rcases Bool.eq_false_or_eq_true (isCode c) with hi | hi
  · exact h2 c (List.mem_filter.mpr ⟨hc, hi⟩)
  · simpa [hi] using h
set_option maxRecDepth 65536 in
theorem w_c0 : (Jvm.Cond.code x code maxLocals ret).before args0 about1 = true := code_word (m := ⟨1, 1⟩) (meth := k1m1) (c := k1c1) (by decide +kernel) rfl rfl rfl (by decide +kernel)
set_option maxRecDepth 65536 in
theorem w_c1 : (Jvm.Cond.code ({ cls := "com/example/headroom/headroom/ResourceUsage", name := "<init>", desc := "(DD)V" } : Jvm.MethodName) prog_20_method_1_code (5 : Nat) (Option.none : Option Jvm.ClassFile.FieldType)).before args0 about1 = true := code_word (m := ⟨3, 0⟩) (meth := k3m0) (c := k3c0) (by decide +kernel) rfl rfl rfl (by decide +kernel)
set_option maxRecDepth 65536 in
theorem w_c2 : (Jvm.Cond.code ({ cls := "java/lang/Record", name := "<init>", desc := "()V" } : Jvm.MethodName) jdk_30_method_1_code (1 : Nat) (Option.none : Option Jvm.ClassFile.FieldType)).before args0 about1 = true := code_word (m := ⟨2, 0⟩) (meth := k2m0) (c := k2c0) (by decide +kernel) rfl rfl rfl (by decide +kernel)
set_option maxRecDepth 65536 in
theorem w_c3 : (Jvm.Cond.code ({ cls := "java/lang/Object", name := "<init>", desc := "()V" } : Jvm.MethodName) object_method_1_code (1 : Nat) (Option.none : Option Jvm.ClassFile.FieldType)).before args0 about1 = true := code_word (m := ⟨0, 0⟩) (meth := k0m0) (c := k0c0) (by decide +kernel) rfl rfl rfl (by decide +kernel)
set_option maxRecDepth 65536 in
theorem w_c4 : (Jvm.Cond.code ({ cls := "com/example/headroom/headroom/Figures", name := "requireNonNegative", desc := "(Ljava/lang/String;D)V" } : Jvm.MethodName) prog_15_method_2_code (3 : Nat) (Option.none : Option Jvm.ClassFile.FieldType)).before args0 about1 = true := code_word (m := ⟨10, 1⟩) (meth := k10m1) (c := k10c1) (by decide +kernel) rfl rfl rfl (by decide +kernel)
set_option maxRecDepth 65536 in
theorem w_c5 : (Jvm.Cond.code ({ cls := "java/lang/Double", name := "isFinite", desc := "(D)Z" } : Jvm.MethodName) jdk_117_method_8_code (2 : Nat) (Option.some Jvm.ClassFile.FieldType.boolean)).before args0 about1 = true := code_word (m := ⟨12, 0⟩) (meth := k12m0) (c := k12c0) (by decide +kernel) rfl rfl rfl (by decide +kernel)
set_option maxRecDepth 65536 in
theorem w_c6 : (Jvm.Cond.code ({ cls := "java/lang/Math", name := "abs", desc := "(D)D" } : Jvm.MethodName) jdk_29_method_64_code (2 : Nat) (Option.some Jvm.ClassFile.FieldType.double)).before args0 about1 = true := code_word (m := ⟨13, 1⟩) (meth := k13m1) (c := k13c1) (by decide +kernel) rfl rfl rfl (by decide +kernel)
set_option maxRecDepth 65536 in
theorem w_c7 : (Jvm.Cond.code ({ cls := "com/example/headroom/headroom/ResourceUsage", name := "fraction", desc := "()D" } : Jvm.MethodName) prog_20_method_2_code (1 : Nat) (Option.some Jvm.ClassFile.FieldType.double)).before args0 about1 = true := code_word (m := ⟨3, 1⟩) (meth := k3m1) (c := k3c1) (by decide +kernel) rfl rfl rfl (by decide +kernel)
def codes1 : List Jvm.Cond := [Jvm.Cond.code x code maxLocals ret, Jvm.Cond.code ({ cls := "com/example/headroom/headroom/ResourceUsage", name := "<init>", desc := "(DD)V" } : Jvm.MethodName) prog_20_method_1_code (5 : Nat) (Option.none : Option Jvm.ClassFile.FieldType), Jvm.Cond.code ({ cls := "java/lang/Record", name := "<init>", desc := "()V" } : Jvm.MethodName) jdk_30_method_1_code (1 : Nat) (Option.none : Option Jvm.ClassFile.FieldType), Jvm.Cond.code ({ cls := "java/lang/Object", name := "<init>", desc := "()V" } : Jvm.MethodName) object_method_1_code (1 : Nat) (Option.none : Option Jvm.ClassFile.FieldType), Jvm.Cond.code ({ cls := "com/example/headroom/headroom/Figures", name := "requireNonNegative", desc := "(Ljava/lang/String;D)V" } : Jvm.MethodName) prog_15_method_2_code (3 : Nat) (Option.none : Option Jvm.ClassFile.FieldType), Jvm.Cond.code ({ cls := "java/lang/Double", name := "isFinite", desc := "(D)Z" } : Jvm.MethodName) jdk_117_method_8_code (2 : Nat) (Option.some Jvm.ClassFile.FieldType.boolean), Jvm.Cond.code ({ cls := "java/lang/Math", name := "abs", desc := "(D)D" } : Jvm.MethodName) jdk_29_method_64_code (2 : Nat) (Option.some Jvm.ClassFile.FieldType.double), Jvm.Cond.code ({ cls := "com/example/headroom/headroom/ResourceUsage", name := "fraction", desc := "()D" } : Jvm.MethodName) prog_20_method_2_code (1 : Nat) (Option.some Jvm.ClassFile.FieldType.double)]
set_option maxRecDepth 65536 in
theorem codes_eq : words1.filter isCode = codes1 := rfl
theorem w_codes : ∀ c ∈ words1.filter isCode, c.before args0 about1 = true := by
  rw [codes_eq]
  intro c hc
  simp only [codes1, List.mem_cons, List.not_mem_nil, or_false] at hc
  rcases hc with rfl | rfl | rfl | rfl | rfl | rfl | rfl | rfl
  · exact w_c0
  · exact w_c1
  · exact w_c2
  · exact w_c3
  · exact w_c4
  · exact w_c5
  · exact w_c6
  · exact w_c7
set_option maxRecDepth 65536 in
theorem w_t1 : (words1.take 24).all (fun c => isCode c || c.before args0 about1) = true := by decide +kernel
set_option maxRecDepth 65536 in
theorem w_t2 : (words1.drop 24).all (fun c => isCode c || c.before args0 about1) = true := by decide +kernel
theorem w_tables : (allAtoms (Jvm.Cond.code x code maxLocals ret :: tables_1)).before args0 about1 = true := by
  rw [allAtoms_all]
  show words1.all (fun c => c.before args0 about1) = true
  refine all_split ?_ w_codes
  rw [← List.take_append_drop 24 words1, List.all_append, w_t1, w_t2]
  rfl
set_option maxRecDepth 65536 in
theorem w_case : (Jvm.Cond.and given_1 narrow_1).before args0 about1 = true := by decide +kernel
theorem w_applies : (headSpec (Jvm.Cond.code x code maxLocals ret :: tables_1) room_1).applies x e0.platform about1 = true :=
  (Spec.applies_iff w_frames).mpr ⟨w_running, w_runnable, w_alone, w_named, w_hears, w_ripe, w_room, w_tables⟩
theorem atStart : AtStart classFile x code maxLocals ret World_1 tables_1 room_1 Calls_1 rest_1 Pre_1 launch0 p0 e0 about1 theMethod args0 below0 :=
  ⟨lists_1, trivial, launch0.admits_env _ _ _, launch0.least_env, fairChoices_fair.cas, fairChoices_fair.clock, w_frames, w_args, w_heap, w_applies, trivial, trivial, w_case⟩
end start1
theorem witness_1 : WitnessClaimed_1 := ⟨start1.p0, start1.e0, start1.about1, start1.theMethod, start1.args0, start1.below0, start1.atStart⟩
end Jvm.Pilot.@@N@@
