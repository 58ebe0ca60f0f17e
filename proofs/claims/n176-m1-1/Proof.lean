import JvmDerived
import JvmDerived.Pilot.@@N@@Statement
import JvmDerived.Pilot.@@N@@Code
set_option linter.unusedVariables false
set_option linter.unusedSimpArgs false
namespace Jvm.RoadKit
open Sem ClassFile Op Lib Jvm.Stand Jvm.Free Jvm.LawKit
section New
variable {p : Program} {l : Launch} {e : Env} {R : Room} {s : State} {m : MethodId} {args : Array Value} {below : List Frame} {meth : Method} {c : Code} {T : State} {locs : List Loc} {cells slots : Nat}
theorem retI (X : Stand p l e R s m args below meth c T locs cells slots) (hx : p.tables.exec = Jvm.exec) {pc : Nat} {Ls : Array Slot} {z : Int32} {rest : List Value} (hret : meth.sig.returnType = some .int) (hd : decode c.code pc = .ok (.ireturn, 1)) {fs : List Frame}
    (hl : ∀ (f : JFrame) (acts : List Action), f.method = m → f.locked = none → f.entered = [] → (doReturn e (T.setTop f) acts (some (.int z))).1 = T.setFrames fs) : Steps p.tables e below (T.setTop (mkF m pc Ls (.int z :: rest))) (T.setFrames fs) := by
  have hm' : T.vm.method? m = some meth := X.method'
  have hn : narrow .int (.int z) = .int z := rfl
  show Steps p.tables e below (T.setTop { method := m, pc := pc, locals := Ls, stack := _ :: rest, locked := none }) _
  jvm_step X.here [X.here.top, hx, hd, hm', hret, hn]
  first | (intro acts; rw [hl _ acts rfl rfl rfl]) | rw [hl _ _ rfl rfl rfl]
  exact Steps.refl _
end New
end Jvm.RoadKit
namespace Jvm.Pilot.@@N@@.FV
open Jvm.FP.Core
/-- the datum is `i * 2^e` (a zero of either sign is 0) -/
def Val (i e : Int) : Datum → Prop
  | .fin s c q => signed s c * ((2 ^ (q - e).toNat : Nat) : Int) = i * ((2 ^ (e - q).toNat : Nat) : Int)
  | _ => False
theorem p2 (n : Nat) : (0 : Int) < ((2 ^ n : Nat) : Int) := by have := Nat.two_pow_pos n; omega
theorem p2ne (n : Nat) : ((2 ^ n : Nat) : Int) ≠ 0 := by have := p2 n; omega
theorem p2add (a b : Nat) : ((2 ^ (a + b) : Nat) : Int) = ((2 ^ a : Nat) : Int) * ((2 ^ b : Nat) : Int) := by rw [Nat.pow_add, Int.natCast_mul]
theorem units_int (s : Bool) (c : Nat) (q m : Int) : signed s (inUnits c q m) = signed s c * ((2 ^ (q - m).toNat : Nat) : Int) := by
  unfold inUnits; rw [signed_mul]
theorem val_iff {i e m : Int} {s : Bool} {c : Nat} {q : Int} (h1 : m ≤ q) (h2 : m ≤ e) :
    Val i e (.fin s c q) ↔ signed s c * ((2 ^ (q - m).toNat : Nat) : Int) = i * ((2 ^ (e - m).toNat : Nat) : Int) := by
  show signed s c * ((2 ^ (q - e).toNat : Nat) : Int) = i * ((2 ^ (e - q).toNat : Nat) : Int) ↔ _
  by_cases h : e ≤ q
  · rw [show (e - q).toNat = 0 by omega, show (q - m).toNat = (q - e).toNat + (e - m).toNat by omega, p2add, ← Int.mul_assoc]
    constructor
    · intro h3; rw [h3]; simp
    · intro h3; have := Int.eq_of_mul_eq_mul_right (p2ne _) h3; rw [this]; simp
  · rw [show (q - e).toNat = 0 by omega, show (e - m).toNat = (e - q).toNat + (q - m).toNat by omega, p2add, ← Int.mul_assoc]
    constructor
    · intro h3; rw [← h3]; simp
    · intro h3; have := Int.eq_of_mul_eq_mul_right (p2ne _) h3; rw [← this]; simp
theorem val_fin {i e : Int} {d : Datum} (h : Val i e d) : ∃ s c q, d = .fin s c q := by
  cases d with
  | nan => exact h.elim
  | inf => exact h.elim
  | fin s c q => exact ⟨s, c, q, rfl⟩
theorem val_ne_nan {i e : Int} {d : Datum} (h : Val i e d) : d ≠ .nan := by
  obtain ⟨s, c, q, rfl⟩ := val_fin h; exact Datum.noConfusion
theorem val_abs {i e : Int} {s : Bool} {c : Nat} {q : Int} (h : Val i e (.fin s c q)) : c * 2 ^ (q - e).toNat = i.natAbs * 2 ^ (e - q).toNat := by
  have := congrArg Int.natAbs (show signed s c * ((2 ^ (q - e).toNat : Nat) : Int) = i * ((2 ^ (e - q).toNat : Nat) : Int) from h)
  rw [Int.natAbs_mul, Int.natAbs_mul, natAbs_signed, Int.natAbs_natCast, Int.natAbs_natCast] at this
  exact this
theorem val_zero {i e : Int} {s : Bool} {c : Nat} {q : Int} (h : Val i e (.fin s c q)) : c = 0 ↔ i = 0 := by
  have h1 := val_abs h
  have p1 := Nat.two_pow_pos (q - e).toNat
  have p2 := Nat.two_pow_pos (e - q).toNat
  constructor
  · rintro rfl
    rw [Nat.zero_mul] at h1
    have := Nat.mul_eq_zero.mp h1.symm
    omega
  · rintro rfl
    rw [show (0 : Int).natAbs = 0 from rfl, Nat.zero_mul] at h1
    have := Nat.mul_eq_zero.mp h1
    omega
theorem val_sign {i e : Int} {s : Bool} {c : Nat} {q : Int} (h : Val i e (.fin s c q)) (hi : i ≠ 0) : s = decide (i < 0) := by
  have h' : signed s c * ((2 ^ (q - e).toNat : Nat) : Int) = i * ((2 ^ (e - q).toNat : Nat) : Int) := h
  have hc : 0 < c := by have := val_zero h; omega
  have a1 := p2 (q - e).toNat
  have a2 := p2 (e - q).toNat
  have h1 : decide (signed s c < 0) = s := signed_lt_zero s hc
  rw [← h1, decide_eq_decide]
  constructor
  · intro hlt
    have := Int.mul_neg_of_neg_of_pos hlt a1
    rw [h'] at this
    exact Int.lt_of_not_ge fun hge => by have := Int.mul_nonneg hge (Int.le_of_lt a2); omega
  · intro hlt
    have := Int.mul_neg_of_neg_of_pos hlt a2
    rw [← h'] at this
    exact Int.lt_of_not_ge fun hge => by have := Int.mul_nonneg hge (Int.le_of_lt a1); omega
theorem val_signed {i e : Int} {s : Bool} {c : Nat} {q : Int} (h : Val i e (.fin s c q)) : signed s i.natAbs = i := by
  by_cases hi : i = 0
  · rw [hi]; exact signed_zero s
  · rw [val_sign h hi]; unfold signed
    by_cases h : i < 0 <;> simp [h] <;> omega
theorem val_whole {i : Int} {d : Datum} : Val i 0 d ↔ Whole i d := by
  cases d with
  | nan => exact Iff.rfl
  | inf => exact Iff.rfl
  | fin s c q =>
    show signed s c * ((2 ^ (q - 0).toNat : Nat) : Int) = i * ((2 ^ (0 - q).toNat : Nat) : Int) ↔ signed s (c * 2 ^ q.toNat) = i * ((2 ^ (-q).toNat : Nat) : Int)
    rw [signed_mul, show (q - 0).toNat = q.toNat by omega, show (0 - q).toNat = (-q).toNat by omega]
theorem val_shift {i e : Int} {d : Datum} (k : Nat) : Val i e d ↔ Val (i * ((2 ^ k : Nat) : Int)) (e - k) d := by
  cases d with
  | nan => exact Iff.rfl
  | inf => exact Iff.rfl
  | fin s c q =>
    rw [val_iff (m := min q (e - k)) (by omega) (by omega), val_iff (m := min q (e - k)) (by omega) (by omega),
      show (e - min q (e - k)).toNat = k + (e - k - min q (e - k)).toNat by omega, p2add, Int.mul_assoc]
theorem val_zero_any {e e' : Int} {d : Datum} (h : Val 0 e d) : Val 0 e' d := by
  obtain ⟨s, c, q, rfl⟩ := val_fin h
  have := (val_zero h).mpr rfl
  subst this
  show signed s 0 * _ = 0 * _
  rw [signed_zero]; simp
theorem val_ofInt (i : Int) : Val i 0 (ofInt i) := val_whole.mpr (whole_ofInt i)
theorem val_sum {i j e : Int} {x y : Datum} (hx : Val i e x) (hy : Val j e y) : Val (i + j) e (exactSum x y) := by
  obtain ⟨s, c, q, rfl⟩ := val_fin hx
  obtain ⟨t, d, r, rfl⟩ := val_fin hy
  rw [val_iff (m := min (min q r) e) (by omega) (by omega)] at hx hy
  show Val (i + j) e (.fin (sumSign s t (sumUnits s c q t d r (min q r))) (sumUnits s c q t d r (min q r)).natAbs (min q r))
  rw [val_iff (m := min (min q r) e) (by omega) (by omega), signed_sumSign]
  unfold sumUnits
  rw [units_int, units_int, Int.add_mul, Int.add_mul, Int.mul_assoc, Int.mul_assoc, ← p2add, ← p2add,
    show (q - min q r).toNat + (min q r - min (min q r) e).toNat = (q - min (min q r) e).toNat by omega,
    show (r - min q r).toNat + (min q r - min (min q r) e).toNat = (r - min (min q r) e).toNat by omega, hx, hy]
theorem val_neg {i e : Int} {x : Datum} (hx : Val i e x) : Val (-i) e (negate x) := by
  obtain ⟨s, c, q, rfl⟩ := val_fin hx
  have h : signed s c * ((2 ^ (q - e).toNat : Nat) : Int) = i * ((2 ^ (e - q).toNat : Nat) : Int) := hx
  show signed (!s) c * ((2 ^ (q - e).toNat : Nat) : Int) = -i * ((2 ^ (e - q).toNat : Nat) : Int)
  rw [signed_not, Int.neg_mul, Int.neg_mul, h]
theorem val_prod {i j e g : Int} {x y : Datum} (hx : Val i e x) (hy : Val j g y) : Val (i * j) (e + g) (exactProduct x y) := by
  obtain ⟨s, c, q, rfl⟩ := val_fin hx
  obtain ⟨t, d, r, rfl⟩ := val_fin hy
  rw [val_iff (m := min q e) (by omega) (by omega)] at hx
  rw [val_iff (m := min r g) (by omega) (by omega)] at hy
  show Val (i * j) (e + g) (.fin (s != t) (c * d) (q + r))
  rw [val_iff (m := min q e + min r g) (by omega) (by omega), signed_xor,
    show (q + r - (min q e + min r g)).toNat = (q - min q e).toNat + (r - min r g).toNat by omega,
    show (e + g - (min q e + min r g)).toNat = (e - min q e).toNat + (g - min r g).toNat by omega, p2add, p2add]
  calc signed s c * signed t d * (((2 ^ (q - min q e).toNat : Nat) : Int) * ((2 ^ (r - min r g).toNat : Nat) : Int))
      = (signed s c * ((2 ^ (q - min q e).toNat : Nat) : Int)) * (signed t d * ((2 ^ (r - min r g).toNat : Nat) : Int)) := by ac_rfl
    _ = _ := by rw [hx, hy]; ac_rfl
/-- a number of at most p digits, its exponent in range, rounds to itself -/
theorem val_round {f : Fmt} (hf : Good f) {i e : Int} {x : Datum} (hx : Val i e x) (hi : i.natAbs < 2 ^ f.p) (h1 : f.qmin ≤ e) (h2 : e ≤ f.qmax) : Val i e (round f x) := by
  obtain ⟨s, c, q, rfl⟩ := val_fin hx
  have ha := val_abs hx
  have hs := val_signed hx
  have e1 : round f (.fin s c q) = round f (.fin s i.natAbs e) := roundRatio_congr (by decide) (by decide) (by simpa using ha)
  obtain ⟨c', q', h3, h4⟩ := round_exact hf s hi h1 h2
  have hfit := round_fits hf (.fin s i.natAbs e)
  rw [e1]
  rw [h3] at hfit ⊢
  rw [val_iff (m := f.qmin) hfit.2.1 h1, ← units_int, h4, units_int, hs]
theorem val_order {i j e : Int} {x y : Datum} (hx : Val i e x) (hy : Val j e y) : order x y = some (compare i j) := by
  obtain ⟨s, c, q, rfl⟩ := val_fin hx
  obtain ⟨t, d, r, rfl⟩ := val_fin hy
  rw [val_iff (m := min (min q r) e) (by omega) (by omega)] at hx hy
  show some (compare (signed s (inUnits c q (min q r))) (signed t (inUnits d r (min q r)))) = _
  rw [← compare_mul_pos (signed s _) _ _ (p2 (min q r - min (min q r) e).toNat), units_int, units_int, Int.mul_assoc, Int.mul_assoc, ← p2add, ← p2add,
    show (q - min q r).toNat + (min q r - min (min q r) e).toNat = (q - min (min q r) e).toNat by omega,
    show (r - min q r).toNat + (min q r - min (min q r) e).toNat = (r - min (min q r) e).toNat by omega, hx, hy, compare_mul_pos _ _ _ (p2 _)]
theorem scale_eq {X Y P N t : Nat} (h : X * 2 ^ (P + t) = Y * 2 ^ (N + t)) : X * 2 ^ P = Y * 2 ^ N := by
  rw [Nat.pow_add, Nat.pow_add, ← Nat.mul_assoc, ← Nat.mul_assoc] at h
  exact Nat.eq_of_mul_eq_mul_right (Nat.two_pow_pos t) h
theorem ratio_cross {c d n m : Nat} {q r e g : Int} (hx : c * 2 ^ (q - e).toNat = n * 2 ^ (e - q).toNat) (hy : d * 2 ^ (r - g).toNat = m * 2 ^ (g - r).toNat) :
    c * m * 2 ^ ((q - r) - (e - g)).toNat = n * d * 2 ^ ((e - g) - (q - r)).toNat := by
  have e1 : c * m * 2 ^ ((q - e).toNat + (g - r).toNat) = n * d * 2 ^ ((e - q).toNat + (r - g).toNat) := by
    rw [Nat.pow_add, Nat.pow_add]
    calc c * m * (2 ^ (q - e).toNat * 2 ^ (g - r).toNat) = (c * 2 ^ (q - e).toNat) * (m * 2 ^ (g - r).toNat) := by ac_rfl
      _ = (n * 2 ^ (e - q).toNat) * (d * 2 ^ (r - g).toNat) := by rw [hx, hy]
      _ = _ := by ac_rfl
  have k : ((q - e).toNat : Int) + (g - r).toNat - ((e - q).toNat + (r - g).toNat) = (q - r) - (e - g) := by omega
  refine scale_eq (t := min ((q - e).toNat + (g - r).toNat) ((e - q).toNat + (r - g).toNat)) ?_
  rw [show ((q - r) - (e - g)).toNat + min ((q - e).toNat + (g - r).toNat) ((e - q).toNat + (r - g).toNat) = (q - e).toNat + (g - r).toNat by omega,
    show ((e - g) - (q - r)).toNat + min ((q - e).toNat + (g - r).toNat) ((e - q).toNat + (r - g).toNat) = (e - q).toNat + (r - g).toNat by omega]
  exact e1
/-- a quotient is the rounding of the ratio of the two values -/
theorem quot_ratio {f : Fmt} {s t : Bool} {c d : Nat} {q r i j e g : Int} (hx : Val i e (.fin s c q)) (hy : Val j g (.fin t d r)) (hj : j ≠ 0) :
    quotient f (.fin s c q) (.fin t d r) = roundRatio f (s != t) i.natAbs j.natAbs (e - g) := by
  have hd : d ≠ 0 := fun z => hj ((val_zero hy).mp z)
  show (if d = 0 then _ else roundRatio f (s != t) c d (q - r)) = _
  rw [if_neg hd]
  exact roundRatio_congr (by omega) (by omega) (ratio_cross (val_abs hx) (val_abs hy))
theorem val_quot {f : Fmt} (hf : Good f) {i j k e g : Int} {x y : Datum} (hx : Val i e x) (hy : Val j g y) (hj : j ≠ 0) (hk : i = k * j) (hb : k.natAbs < 2 ^ f.p) (h1 : f.qmin ≤ e - g) (h2 : e - g ≤ f.qmax) : Val k (e - g) (quotient f x y) := by
  obtain ⟨s, c, q, rfl⟩ := val_fin hx
  obtain ⟨t, d, r, rfl⟩ := val_fin hy
  rw [quot_ratio hx hy hj]
  have hv : Val k (e - g) (.fin (s != t) k.natAbs (e - g)) := by
    show signed (s != t) k.natAbs * _ = k * _
    congr 1
    by_cases h0 : k = 0
    · rw [h0]; exact signed_zero _
    · have hi : i ≠ 0 := by rw [hk]; exact Int.mul_ne_zero h0 hj
      rw [val_sign hx hi, val_sign hy hj, hk]
      have q : (decide (k * j < 0) != decide (j < 0)) = decide (k < 0) := by
        rcases Int.lt_or_gt_of_ne hj with hj | hj <;> rcases Int.lt_or_gt_of_ne h0 with h0 | h0
        · have := Int.mul_pos_of_neg_of_neg h0 hj
          rw [decide_eq_false (show ¬ k * j < 0 by omega), decide_eq_true hj, decide_eq_true h0]; rfl
        · have := Int.mul_neg_of_pos_of_neg h0 hj
          rw [decide_eq_true this, decide_eq_true hj, decide_eq_false (show ¬ k < 0 by omega)]; rfl
        · have := Int.mul_neg_of_neg_of_pos h0 hj
          rw [decide_eq_true this, decide_eq_false (show ¬ j < 0 by omega), decide_eq_true h0]; rfl
        · have := Int.mul_pos h0 hj
          rw [decide_eq_false (show ¬ k * j < 0 by omega), decide_eq_false (show ¬ j < 0 by omega), decide_eq_false (show ¬ k < 0 by omega)]; rfl
      rw [q]; unfold signed
      by_cases h : k < 0 <;> simp [h] <;> omega
  have e1 : roundRatio f (s != t) i.natAbs j.natAbs (e - g) = round f (.fin (s != t) k.natAbs (e - g)) := by
    refine roundRatio_congr (by omega) (by decide) ?_
    rw [hk, Int.natAbs_mul]; simp
  rw [e1]
  exact val_round hf hv hb h1 h2
/-! on the bits of a double -/
def DV (i e : Int) (a : UInt64) : Prop := Val i e (val64 a)
theorem DV.fin {i e : Int} {a : UInt64} (h : DV i e a) : DFin a := val_fin h
theorem DV.fin64 {i e : Int} {a : UInt64} (h : DV i e a) : Jvm.Free.Fl.Fin64 a := Jvm.Free.Fl.fin64_core.mpr h.fin
theorem DV.nn {i e : Int} {a : UInt64} (h : DV i e a) : Jvm.Free.Fl.NoNaN64 a := h.fin64.noNaN
theorem dv_lit {i e : Int} {a : UInt64} (s : Bool) (c : Nat) (q : Int) (h1 : val64 a = .fin s c q) (h2 : signed s c * ((2 ^ (q - e).toNat : Nat) : Int) = i * ((2 ^ (e - q).toNat : Nat) : Int)) : DV i e a := by
  unfold DV; rw [h1]; exact h2
theorem dv_int {i : Int} {a : UInt64} : DV i 0 a ↔ DInt i a := val_whole
theorem dv_shift {i e : Int} {a : UInt64} (k : Nat) : DV i e a ↔ DV (i * ((2 ^ k : Nat) : Int)) (e - k) a := val_shift k
theorem dv_add {i j e : Int} {a b : UInt64} (ha : DV i e a) (hb : DV j e b) (h : (i + j).natAbs < 2 ^ 53) (h1 : -1074 ≤ e) (h2 : e ≤ 971) : DV (i + j) e (FP.dadd a b) := by
  unfold DV; rw [show FP.dadd a b = dadd a b from rfl, val64_dadd]; exact val_round good_b64 (val_sum ha hb) h h1 h2
theorem dv_sub {i j e : Int} {a b : UInt64} (ha : DV i e a) (hb : DV j e b) (h : (i - j).natAbs < 2 ^ 53) (h1 : -1074 ≤ e) (h2 : e ≤ 971) : DV (i - j) e (FP.dsub a b) := by
  unfold DV; rw [show FP.dsub a b = dsub a b from rfl, val64_dsub]; exact val_round good_b64 (val_sum ha (val_neg hb)) h h1 h2
theorem dv_mul {i j e g : Int} {a b : UInt64} (ha : DV i e a) (hb : DV j g b) (h : (i * j).natAbs < 2 ^ 53) (h1 : -1074 ≤ e + g) (h2 : e + g ≤ 971) : DV (i * j) (e + g) (FP.dmul a b) := by
  unfold DV; rw [show FP.dmul a b = dmul a b from rfl, val64_dmul]; exact val_round good_b64 (val_prod ha hb) h h1 h2
theorem dv_div {i j k e g : Int} {a b : UInt64} (ha : DV i e a) (hb : DV j g b) (hj : j ≠ 0) (hk : i = k * j) (h : k.natAbs < 2 ^ 53) (h1 : -1074 ≤ e - g) (h2 : e - g ≤ 971) : DV k (e - g) (FP.ddiv a b) := by
  unfold DV; rw [show FP.ddiv a b = ddiv a b from rfl, val64_ddiv]; exact val_quot good_b64 ha hb hj hk h h1 h2
theorem dv_cmp {i j e : Int} {a b : UInt64} (ha : DV i e a) (hb : DV j e b) : FP.dcmp a b = some (compare i j) := val_order ha hb
theorem dv_i2d (n : Int32) : DV n.toInt 0 (FP.i2d n) := dv_int.mpr (i2d_int n)
theorem dv_l2d {n : Int64} (h : n.toInt.natAbs ≤ 2 ^ 53) : DV n.toInt 0 (FP.l2d n) := dv_int.mpr (l2d_int h)
/-- what dcmpl and dcmpg push -/
theorem cv_eq {i j e : Int} {a b : UInt64} (ha : DV i e a) (hb : DV j e b) (o : Jvm.ClassFile.CmpOp) (h : i = j) : Jvm.Op.cmpValue (FP.dcmp a b) o = 0 := by
  rw [dv_cmp ha hb, (compare_eq_iff i j).mpr h]; cases o <;> rfl
theorem cv_lt {i j e : Int} {a b : UInt64} (ha : DV i e a) (hb : DV j e b) (o : Jvm.ClassFile.CmpOp) (h : i < j) : Jvm.Op.cmpValue (FP.dcmp a b) o = -1 := by
  rw [dv_cmp ha hb, (compare_lt_iff i j).mpr h]; cases o <;> rfl
theorem cv_gt {i j e : Int} {a b : UInt64} (ha : DV i e a) (hb : DV j e b) (o : Jvm.ClassFile.CmpOp) (h : j < i) : Jvm.Op.cmpValue (FP.dcmp a b) o = 1 := by
  rw [dv_cmp ha hb, (compare_gt_iff i j).mpr h]; cases o <;> rfl
theorem cv_neg {i j e : Int} {a b : UInt64} (ha : DV i e a) (hb : DV j e b) (o : Jvm.ClassFile.CmpOp) : (Jvm.Op.cmpValue (FP.dcmp a b) o < (0 : Int32)) ↔ i < j := by
  rcases Int.lt_trichotomy i j with h | h | h
  · rw [cv_lt ha hb o h]; exact ⟨fun _ => h, fun _ => by decide⟩
  · rw [cv_eq ha hb o h]; exact ⟨fun z => absurd z (by decide), fun z => by omega⟩
  · rw [cv_gt ha hb o h]; exact ⟨fun z => absurd z (by decide), fun z => by omega⟩
theorem cv_pos {i j e : Int} {a b : UInt64} (ha : DV i e a) (hb : DV j e b) (o : Jvm.ClassFile.CmpOp) : ((0 : Int32) < Jvm.Op.cmpValue (FP.dcmp a b) o) ↔ j < i := by
  rcases Int.lt_trichotomy i j with h | h | h
  · rw [cv_lt ha hb o h]; exact ⟨fun z => absurd z (by decide), fun z => by omega⟩
  · rw [cv_eq ha hb o h]; exact ⟨fun z => absurd z (by decide), fun z => by omega⟩
  · rw [cv_gt ha hb o h]; exact ⟨fun _ => h, fun _ => by decide⟩
theorem dv_neg {i e : Int} {a : UInt64} (ha : DV i e a) : DV (-i) e (FP.dneg a) := by
  unfold DV; rw [Jvm.FP.val64_dneg]; exact val_neg ha
end Jvm.Pilot.@@N@@.FV
namespace Jvm.Pilot.@@N@@.MO
open Jvm.FP.Core FV
/-- rounding is monotone between any two ratios whose roundings are finite -/
theorem rr_mono {f : Fmt} (hf : Good f) {A B A' B' c c' : Nat} {e e' e0 q q' : Int} (hB : 0 < B) (hB' : 0 < B') (h0 : e0 ≤ f.qmin) (h1 : e0 ≤ e) (h2 : e0 ≤ e')
    (hle : inUnits A e e0 * B' ≤ inUnits A' e' e0 * B) (hX : roundRatio f false A B e = .fin false c q) (hY : roundRatio f false A' B' e' = .fin false c' q') : zmag f (.fin false c q) ≤ zmag f (.fin false c' q') := by
  refine Nat.le_of_not_lt fun hlt => ?_
  have fX := roundRatio_fits hf false A hB e
  have fY := roundRatio_fits hf false A' hB' e'
  rw [hX] at fX
  rw [hY] at fY
  have k1 : zmag f (.fin false c' q') * 2 ^ (f.qmin - e0).toNat * B < inUnits A e e0 := Nat.lt_of_not_le fun z => by
    have := zmag_roundRatio_le hf (s := false) hB fY Datum.noConfusion h0 h1 z
    rw [hX] at this; omega
  have k2 : inUnits A' e' e0 < zmag f (.fin false c q) * 2 ^ (f.qmin - e0).toNat * B' := Nat.lt_of_not_le fun z => by
    have := zmag_roundRatio_ge hf (s := false) hB' fX h0 h2 z
    rw [hY] at this; omega
  have d1 := roundRatio_nearest hf hB hX fY.1 fY.2.1 h0 h1
  have d2 := roundRatio_nearest hf hB' hY fX.1 fX.2.1 h0 h2
  unfold distance at d1 d2
  rw [units_fin fX h0, units_fin fY h0] at d1 d2
  generalize zmag f (.fin false c q) * 2 ^ (f.qmin - e0).toNat = x at *
  generalize zmag f (.fin false c' q') * 2 ^ (f.qmin - e0).toNat = y at *
  generalize ha : inUnits A e e0 = a at *
  generalize ha' : inUnits A' e' e0 = a' at *
  have m1 : a < x * B := by
    have : a * B' < x * B * B' := by
      calc a * B' ≤ a' * B := hle
        _ < x * B' * B := Nat.mul_lt_mul_of_pos_right k2 hB
        _ = x * B * B' := by ac_rfl
    exact Nat.lt_of_mul_lt_mul_right this
  have m2 : y * B' < a' := by
    have : y * B' * B < a' * B := by
      calc y * B' * B = y * B * B' := by ac_rfl
        _ < a * B' := Nat.mul_lt_mul_of_pos_right k1 hB'
        _ ≤ a' * B := hle
    exact Nat.lt_of_mul_lt_mul_right this
  rw [← Int.natCast_mul, ← Int.natCast_mul] at d1 d2
  have n1 : x * B + y * B ≤ 2 * a := by omega
  have n2 : 2 * a' ≤ x * B' + y * B' := by omega
  have e1 : a * B' = a' * B := by
    refine Nat.le_antisymm hle ?_
    have u1 : 2 * (a' * B) ≤ (x * B' + y * B') * B := by rw [← Nat.mul_assoc]; exact Nat.mul_le_mul_right B n2
    have u2 : (x * B + y * B) * B' ≤ 2 * (a * B') := by rw [← Nat.mul_assoc]; exact Nat.mul_le_mul_right B' n1
    have u3 : (x * B' + y * B') * B = (x * B + y * B) * B' := by rw [Nat.add_mul, Nat.add_mul]; congr 1 <;> ac_rfl
    omega
  have e2 : roundRatio f false A B e = roundRatio f false A' B' e' := by
    refine roundRatio_congr hB hB' ?_
    rw [← ha, ← ha'] at e1
    unfold inUnits at e1
    refine scale_eq (t := min (e - e0).toNat (e' - e0).toNat) ?_
    rw [show (e - e').toNat + min (e - e0).toNat (e' - e0).toNat = (e - e0).toNat by omega, show (e' - e).toNat + min (e - e0).toNat (e' - e0).toNat = (e' - e0).toNat by omega]
    calc A * B' * 2 ^ (e - e0).toNat = A * 2 ^ (e - e0).toNat * B' := by ac_rfl
      _ = A' * 2 ^ (e' - e0).toNat * B := e1
      _ = _ := by ac_rfl
  rw [hX, hY] at e2
  cases e2
  omega
/-- a datum that is not negative, of magnitude z in the format's least units -/
def NN (f : Fmt) (z : Nat) (d : Datum) : Prop := ∃ c q, d = .fin false c q ∧ Jvm.FP.Core.fits f d ∧ inUnits c q f.qmin = z
theorem NN.zval {f : Fmt} {z : Nat} {d : Datum} (h : NN f z d) : zval f d = (z : Int) := by
  obtain ⟨c, q, rfl, -, h⟩ := h; show signed false (inUnits c q f.qmin) = _; rw [h]; rfl
theorem NN.of {f : Fmt} {d : Datum} {A B : Nat} {e : Int} (hf : Good f) (hB : 0 < B) (h : d = roundRatio f false A B e) (hfin : ∃ s c q, d = .fin s c q) : ∃ z, NN f z d := by
  have h1 := roundRatio_fits hf false A hB e
  rcases roundRatio_cases f false A B e with ⟨c, q, h2⟩ | h2
  · exact ⟨_, c, q, h.trans h2, by rw [h]; exact h1, rfl⟩
  · obtain ⟨s, c, q, h3⟩ := hfin; rw [h, h2] at h3; cases h3
theorem units_prod (c d : Nat) {q r m n : Int} (h1 : m ≤ q) (h2 : n ≤ r) : inUnits (c * d) (q + r) (m + n) = inUnits c q m * inUnits d r n := by
  unfold inUnits
  rw [show (q + r - (m + n)).toNat = (q - m).toNat + (r - n).toNat by omega, Nat.pow_add]; ac_rfl
theorem l2f_round {n : Int64} (h : 0 ≤ n.toInt) : val32 (l2f n) = roundRatio b32 false n.toInt.natAbs 1 0 := by
  rw [val32_l2f]; show roundRatio b32 (decide (n.toInt < 0)) n.toInt.natAbs 1 0 = _
  rw [show decide (n.toInt < 0) = false by simp; omega]
theorem l2f_mono {m n : Int64} {z w : Nat} (h0 : 0 ≤ m.toInt) (h : m.toInt ≤ n.toInt) (hz : NN b32 z (val32 (l2f m))) (hw : NN b32 w (val32 (l2f n))) : z ≤ w := by
  obtain ⟨c, q, e1, f1, rfl⟩ := hz
  obtain ⟨c', q', e2, f2, rfl⟩ := hw
  rw [l2f_round h0] at e1
  rw [l2f_round (by omega)] at e2
  exact rr_mono good_b32 (e0 := b32.qmin) (by decide) (by decide) (Int.le_refl _) (by decide) (by decide) (by rw [Nat.mul_one, Nat.mul_one]; unfold inUnits; exact Nat.mul_le_mul_right _ (by omega)) e1 e2
theorem fmul_round {a b : UInt32} {u z : Nat} (ha : NN b32 u (val32 a)) (hb : NN b32 z (val32 b)) : ∃ c q d r, val32 a = .fin false c q ∧ val32 b = .fin false d r ∧ val32 (fmul a b) = roundRatio b32 false (c * d) 1 (q + r) := by
  obtain ⟨c, q, e1, -, -⟩ := ha
  obtain ⟨d, r, e2, -, -⟩ := hb
  exact ⟨c, q, d, r, e1, e2, by rw [val32_fmul, e1, e2]; rfl⟩
theorem fmul_mono {a x y : UInt32} {u z w z' w' : Nat} (ha : NN b32 u (val32 a)) (hx : NN b32 z (val32 x)) (hy : NN b32 w (val32 y)) (h : z ≤ w) (hz : NN b32 z' (val32 (fmul a x))) (hw : NN b32 w' (val32 (fmul a y))) : z' ≤ w' := by
  obtain ⟨c1, q1, e1, f1, rfl⟩ := hz
  obtain ⟨c2, q2, e2, f2, rfl⟩ := hw
  obtain ⟨c, q, e3, f3, -⟩ := ha
  obtain ⟨d, r, e4, f4, rfl⟩ := hx
  obtain ⟨d', r', e5, f5, rfl⟩ := hy
  have g1 : val32 (fmul a x) = roundRatio b32 false (c * d) 1 (q + r) := by rw [val32_fmul, e3, e4]; rfl
  have g2 : val32 (fmul a y) = roundRatio b32 false (c * d') 1 (q + r') := by rw [val32_fmul, e3, e5]; rfl
  rw [e3] at f3; rw [e4] at f4; rw [e5] at f5
  have m3 := f3.2.1
  have m4 := f4.2.1
  have m5 := f5.2.1
  refine rr_mono good_b32 (e0 := b32.qmin + b32.qmin) (by decide) (by decide) (by decide) (by omega) (by omega) ?_ (g1.symm.trans e1) (g2.symm.trans e2)
  rw [units_prod c d m3 m4, units_prod c d' m3 m5, Nat.mul_one, Nat.mul_one]
  exact Nat.mul_le_mul_left _ h
theorem f2d_val {a : UInt32} {c : Nat} {q : Int} (h : val32 a = .fin false c q) : NN b64 (inUnits c q b32.qmin * 2 ^ 925) (val64 (f2d a)) := by
  have hf := val32_fits a
  rw [h] at hf
  have hc : c < 2 ^ 24 := hf.1
  have hq1 : (-149 : Int) ≤ q := hf.2.1
  have hq2 : q ≤ 104 := hf.2.2.1
  have e1 : val64 (f2d a) = round b64 (.fin false c q) := by rw [val64_f2d, h]
  obtain ⟨c', q', h3, h4⟩ := round_exact good_b64 false (c := c) (q := q) (show c < 2 ^ 53 by omega) (show (-1074 : Int) ≤ q by omega) (show q ≤ 971 by omega)
  refine ⟨c', q', e1.trans h3, val64_fits _, h4.trans ?_⟩
  show inUnits c q (-1074) = inUnits c q (-149) * 2 ^ 925
  rw [inUnits_move c (q := q) (r := -149) (e := -1074) (by decide) hq1]; rfl
theorem ddiv_mono {a x y : UInt64} {u z w z' w' : Nat} (ha : NN b64 u (val64 a)) (hu : 0 < u) (hx : NN b64 z (val64 x)) (hy : NN b64 w (val64 y)) (h : z ≤ w) (hz : NN b64 z' (val64 (ddiv x a))) (hw : NN b64 w' (val64 (ddiv y a))) : z' ≤ w' := by
  obtain ⟨c1, q1, e1, f1, rfl⟩ := hz
  obtain ⟨c2, q2, e2, f2, rfl⟩ := hw
  obtain ⟨c, q, e3, f3, hu2⟩ := ha
  obtain ⟨d, r, e4, f4, rfl⟩ := hx
  obtain ⟨d', r', e5, f5, rfl⟩ := hy
  have hc : c ≠ 0 := fun z => by rw [z] at hu2; unfold inUnits at hu2; omega
  have g1 : val64 (ddiv x a) = roundRatio b64 false d c (r - q) := by rw [val64_ddiv, e3, e4]; show (if c = 0 then _ else _) = _; rw [if_neg hc]; rfl
  have g2 : val64 (ddiv y a) = roundRatio b64 false d' c (r' - q) := by rw [val64_ddiv, e3, e5]; show (if c = 0 then _ else _) = _; rw [if_neg hc]; rfl
  rw [e4] at f4; rw [e5] at f5
  have m4 := f4.2.1
  have m5 := f5.2.1
  refine rr_mono good_b64 (e0 := min b64.qmin (b64.qmin - q)) (by omega) (by omega) (by omega) (by omega) (by omega) ?_ (g1.symm.trans e1) (g2.symm.trans e2)
  refine Nat.mul_le_mul_right _ ?_
  have k : ∀ (v : Nat) (s : Int), b64.qmin ≤ s → inUnits v (s - q) (min b64.qmin (b64.qmin - q)) = inUnits v s b64.qmin * 2 ^ (b64.qmin - q - min b64.qmin (b64.qmin - q)).toNat := by
    intro v s hs; unfold inUnits
    rw [show (s - q - min b64.qmin (b64.qmin - q)).toNat = (s - b64.qmin).toNat + (b64.qmin - q - min b64.qmin (b64.qmin - q)).toNat by omega, Nat.pow_add, Nat.mul_assoc]
  rw [k d r m4, k d' r' m5]
  exact Nat.mul_le_mul_right _ h
theorem dadd_round {a x : UInt64} {c d : Nat} {q r : Int} (ha : val64 a = .fin false c q) (hx : val64 x = .fin false d r) : val64 (dadd a x) = roundRatio b64 false (inUnits c q (min q r) + inUnits d r (min q r)) 1 (min q r) := by
  rw [val64_dadd, ha, hx]
  have e : sumUnits false c q false d r (min q r) = ((inUnits c q (min q r) + inUnits d r (min q r) : Nat) : Int) := by
    show (inUnits c q (min q r) : Int) + (inUnits d r (min q r) : Int) = _
    rw [Int.natCast_add]
  show roundRatio b64 (sumSign false false (sumUnits false c q false d r (min q r))) (sumUnits false c q false d r (min q r)).natAbs 1 (min q r) = _
  rw [e, Int.natAbs_natCast]
  congr 1
  unfold sumSign; split
  · rfl
  · simp; omega
theorem dadd_mono {a x y : UInt64} {u z w z' w' : Nat} (ha : NN b64 u (val64 a)) (hx : NN b64 z (val64 x)) (hy : NN b64 w (val64 y)) (h : z ≤ w) (hz : NN b64 z' (val64 (dadd a x))) (hw : NN b64 w' (val64 (dadd a y))) : z' ≤ w' := by
  obtain ⟨c1, q1, e1, f1, rfl⟩ := hz
  obtain ⟨c2, q2, e2, f2, rfl⟩ := hw
  obtain ⟨c, q, e3, f3, -⟩ := ha
  obtain ⟨d, r, e4, f4, rfl⟩ := hx
  obtain ⟨d', r', e5, f5, rfl⟩ := hy
  have g1 := dadd_round e3 e4
  have g2 := dadd_round e3 e5
  rw [e3] at f3; rw [e4] at f4; rw [e5] at f5
  have m3 := f3.2.1
  have m4 := f4.2.1
  have m5 := f5.2.1
  refine rr_mono good_b64 (e0 := b64.qmin) (by decide) (by decide) (Int.le_refl _) (by omega) (by omega) ?_ (g1.symm.trans e1) (g2.symm.trans e2)
  have k : ∀ (v : Nat) (s : Int), b64.qmin ≤ s → b64.qmin ≤ min q s → inUnits (inUnits c q (min q s) + inUnits v s (min q s)) (min q s) b64.qmin = inUnits c q b64.qmin + inUnits v s b64.qmin := by
    intro v s hs hm
    rw [inUnits_move c (q := q) (r := min q s) (e := b64.qmin) hm (by omega), inUnits_move v (q := s) (r := min q s) (e := b64.qmin) hm (by omega), ← Nat.add_mul]
    rfl
  rw [k d r m4 (by omega), k d' r' m5 (by omega), Nat.mul_one, Nat.mul_one]
  exact Nat.add_le_add_left h _
end Jvm.Pilot.@@N@@.MO
namespace Jvm.Pilot.@@N@@.LN
open Jvm.FP.Core FV MO
theorem nn_fin {f : Fmt} {z : Nat} {d : Datum} (h : NN f z d) : ∃ s c q, d = .fin s c q := by
  obtain ⟨c, q, e, -, -⟩ := h; exact ⟨false, c, q, e⟩
theorem nn_val {f : Fmt} {z : Nat} {d : Datum} (h : NN f z d) : Val z f.qmin d := by
  obtain ⟨c, q, rfl, hf, hz⟩ := h
  rw [val_iff (m := f.qmin) hf.2.1 (Int.le_refl _), ← units_int, hz]
  show (z : Int) = z * ((2 ^ (f.qmin - f.qmin).toNat : Nat) : Int)
  rw [Int.sub_self]; simp
theorem nn_32 {z : Nat} {x : UInt32} (h : NN b32 z (val32 x)) : Jvm.Free.Fl.NoNaN32 x := (Jvm.Free.Fl.fin32_core.mpr (nn_fin h)).noNaN
theorem nn_64 {z : Nat} {x : UInt64} (h : NN b64 z (val64 x)) : Jvm.Free.Fl.NoNaN64 x := (Jvm.Free.Fl.fin64_core.mpr (nn_fin h)).noNaN
/-- a rounding that stays below a number of the format -/
theorem rb {f : Fmt} (hf : Good f) {A B W : Nat} {e e0 : Int} {V : Datum} (hB : 0 < B) (hV : Jvm.FP.Core.fits f V) (hn : V ≠ .nan) (hW : zmag f V = W) (hlt : W < f.tails * 2 ^ (f.exps - 2)) (h0 : e0 ≤ f.qmin) (h0e : e0 ≤ e)
    (h : inUnits A e e0 ≤ W * 2 ^ (f.qmin - e0).toNat * B) : ∃ z, z ≤ W ∧ NN f z (roundRatio f false A B e) := by
  have h1 := zmag_roundRatio_le hf (s := false) hB hV hn h0 h0e (by rw [hW]; exact h)
  have h2 := roundRatio_fits hf false A hB e
  rw [hW] at h1
  rcases roundRatio_cases f false A B e with ⟨c, q, hR⟩ | hR
  · rw [hR] at h1 h2 ⊢
    exact ⟨_, h1, c, q, rfl, h2, rfl⟩
  · rw [hR] at h1
    exact absurd (show f.tails * 2 ^ (f.exps - 2) ≤ W from h1) (Nat.not_le.mpr hlt)
theorem w32 : zmag b32 (val32 (1593835520 : UInt32)) = 2 ^ 212 := by decide +kernel
theorem w63 : zmag b64 (val64 (4890909195324358656 : UInt64)) = 2 ^ 1137 := by decide +kernel
theorem w64 : zmag b64 (val64 (4895412794951729152 : UInt64)) = 2 ^ 1138 := by decide +kernel
theorem l32 : 2 ^ 212 < b32.tails * 2 ^ (b32.exps - 2) := by decide +kernel
theorem l63 : 2 ^ 1137 < b64.tails * 2 ^ (b64.exps - 2) := by decide +kernel
theorem l64 : 2 ^ 1138 < b64.tails * 2 ^ (b64.exps - 2) := by decide +kernel
theorem n32 : val32 (1593835520 : UInt32) ≠ .nan := by decide +kernel
theorem n63 : val64 (4890909195324358656 : UInt64) ≠ .nan := by decide +kernel
theorem n64 : val64 (4895412794951729152 : UInt64) ≠ .nan := by decide +kernel
theorem ln1 {n : Int64} (h : 0 ≤ n.toInt) : ∃ z, z ≤ 2 ^ 212 ∧ NN b32 z (val32 (l2f n)) := by
  rw [l2f_round h]
  refine rb good_b32 (e0 := b32.qmin) (by decide) (val32_fits _) n32 w32 l32 (Int.le_refl _) (by decide) ?_
  have hn : n.toInt.natAbs ≤ 2 ^ 63 := by have := n.toInt_lt; omega
  rw [show inUnits n.toInt.natAbs 0 b32.qmin = n.toInt.natAbs * 2 ^ ((0 : Int) - b32.qmin).toNat from rfl, show ((0 : Int) - b32.qmin).toNat = 149 by decide, show (b32.qmin - b32.qmin).toNat = 0 by decide, Nat.pow_zero, Nat.mul_one, Nat.mul_one, show (2 : Nat) ^ 212 = 2 ^ 63 * 2 ^ 149 from Nat.pow_add 2 63 149]
  exact Nat.mul_le_mul_right _ hn
theorem ln2 {b x : UInt32} {u z : Nat} (hb : NN b32 u (val32 b)) (hu : u ≤ 2 ^ 149) (hx : NN b32 z (val32 x)) (hz : z ≤ 2 ^ 212) : ∃ y, y ≤ 2 ^ 212 ∧ NN b32 y (val32 (fmul b x)) := by
  obtain ⟨c, q, e3, f3, rfl⟩ := hb
  obtain ⟨d, r, e4, f4, rfl⟩ := hx
  have g1 : val32 (fmul b x) = roundRatio b32 false (c * d) 1 (q + r) := by rw [val32_fmul, e3, e4]; rfl
  rw [e3] at f3; rw [e4] at f4
  have m3 : b32.qmin ≤ q := f3.2.1
  have m4 : b32.qmin ≤ r := f4.2.1
  rw [g1]
  refine rb good_b32 (e0 := b32.qmin + b32.qmin) (by decide) (val32_fits _) n32 w32 l32 (by decide) (by omega) ?_
  rw [units_prod c d m3 m4, show (b32.qmin - (b32.qmin + b32.qmin)).toNat = 149 by decide, Nat.mul_one, Nat.mul_comm (2 ^ 212)]
  exact Nat.mul_le_mul hu hz
theorem ln4 {x a : UInt64} {z j : Nat} (hx : NN b64 z (val64 x)) (hz : z ≤ 2 ^ 1137) (ha : DV j 0 a) (hj : 0 < j) : ∃ y, y ≤ 2 ^ 1137 ∧ NN b64 y (val64 (ddiv x a)) := by
  have hv := nn_val hx
  obtain ⟨c, q, e3, f3, -⟩ := hx
  unfold DV at ha
  obtain ⟨t, d, r, e4⟩ := val_fin ha
  rw [e3] at hv; rw [e4] at ha
  obtain rfl : t = false := by rw [val_sign ha (by omega)]; simp
  have g1 : val64 (ddiv x a) = roundRatio b64 false z j (b64.qmin - 0) := by
    rw [val64_ddiv, e3, e4, quot_ratio hv ha (by omega)]; rfl
  rw [g1]
  refine rb good_b64 (e0 := b64.qmin) hj (val64_fits _) n63 w63 l63 (Int.le_refl _) (by decide) ?_
  rw [show inUnits z (b64.qmin - 0) b64.qmin = z * 2 ^ (b64.qmin - 0 - b64.qmin).toNat from rfl, show (b64.qmin - 0 - b64.qmin).toNat = 0 by decide, show (b64.qmin - b64.qmin).toNat = 0 by decide, Nat.pow_zero, Nat.mul_one, Nat.mul_one]
  exact Nat.le_trans hz (Nat.le_mul_of_pos_right _ hj)
theorem ln5 {x y : UInt64} {z w : Nat} (hx : NN b64 z (val64 x)) (hz : z ≤ 2 ^ 1137) (hy : NN b64 w (val64 y)) (hw : w ≤ 2 ^ 1137) : ∃ v, v ≤ 2 ^ 1138 ∧ NN b64 v (val64 (dadd x y)) := by
  obtain ⟨c, q, e3, f3, rfl⟩ := hx
  obtain ⟨d, r, e4, f4, rfl⟩ := hy
  have g1 := dadd_round e3 e4
  rw [e3] at f3; rw [e4] at f4
  have m3 : b64.qmin ≤ q := f3.2.1
  have m4 : b64.qmin ≤ r := f4.2.1
  rw [g1]
  refine rb good_b64 (e0 := b64.qmin) (by decide) (val64_fits _) n64 w64 l64 (Int.le_refl _) (by omega) ?_
  rw [show (b64.qmin - b64.qmin).toNat = 0 by decide, Nat.pow_zero, Nat.mul_one, Nat.mul_one]
  have k : inUnits (inUnits c q (min q r) + inUnits d r (min q r)) (min q r) b64.qmin = inUnits c q b64.qmin + inUnits d r b64.qmin := by
    rw [inUnits_move c (q := q) (r := min q r) (e := b64.qmin) (by omega) (by omega), inUnits_move d (q := r) (r := min q r) (e := b64.qmin) (by omega) (by omega), ← Nat.add_mul]; rfl
  rw [k, show (2 : Nat) ^ 1138 = 2 ^ 1137 + 2 ^ 1137 from Nat.two_pow_succ 1137]
  exact Nat.add_le_add hz hw
theorem f2d_nn {x : UInt32} {z : Nat} (h : NN b32 z (val32 x)) : FP.f2d x = f2d x := by
  refine Jvm.FP.f2d_core ((notNaN_iff32 x).mpr ?_)
  obtain ⟨s, c, q, e⟩ := nn_fin h
  rw [e]; exact Datum.noConfusion
theorem f2d_NN {x : UInt32} {z : Nat} (h : NN b32 z (val32 x)) : NN b64 (z * 2 ^ 925) (val64 (FP.f2d x)) := by
  rw [f2d_nn h]
  obtain ⟨c, q, e, -, rfl⟩ := h
  exact f2d_val e
def isNN (f : Fmt) (z : Nat) : Datum → Bool
  | .fin false c q => decide (inUnits c q f.qmin = z)
  | _ => false
theorem nn_of {f : Fmt} {z : Nat} {d : Datum} (h : isNN f z d = true) (hf : Jvm.FP.Core.fits f d) : NN f z d := by
  cases d with
  | nan => exact Bool.noConfusion (show false = true from h)
  | inf s => exact Bool.noConfusion (show false = true from h)
  | fin s c q =>
    cases s with
    | true => exact Bool.noConfusion (show false = true from h)
    | false => exact ⟨c, q, rfl, hf, of_decide_eq_true h⟩
def B (k : Int32) : UInt32 := FP.fdiv (FP.i2f k) (1098907648 : UInt32)
def ln (b : UInt32) (n : Int64) (d : UInt64) : UInt64 := FP.dadd (FP.f2d (FP.fsub (1065353216 : UInt32) b)) (FP.ddiv (FP.f2d (FP.fmul b (FP.l2f n))) d)
theorem tab : ∀ j : Nat, j < 17 → isNN b32 (j * 2 ^ 145) (val32 (B (Int32.ofInt j))) = true ∧ isNN b32 ((16 - j) * 2 ^ 145) (val32 (FP.fsub (1065353216 : UInt32) (B (Int32.ofInt j)))) = true := by decide +kernel
theorem bNN {k : Int32} (h : 0 ≤ k.toInt ∧ k.toInt ≤ 16) : NN b32 (k.toInt.toNat * 2 ^ 145) (val32 (B k)) ∧ NN b32 ((16 - k.toInt.toNat) * 2 ^ 145) (val32 (FP.fsub (1065353216 : UInt32) (B k))) := by
  have e : Int32.ofInt ((k.toInt.toNat : Nat) : Int) = k := by rw [Int.toNat_of_nonneg h.1]; exact Int32.ofInt_toInt k
  have t := tab k.toInt.toNat (by omega)
  rw [e] at t
  exact ⟨nn_of t.1 (val32_fits _), nn_of t.2 (val32_fits _)⟩
theorem le149 {j : Nat} (h : j ≤ 16) : j * 2 ^ 145 ≤ 2 ^ 149 := by
  rw [show (2 : Nat) ^ 149 = 2 ^ 4 * 2 ^ 145 from Nat.pow_add 2 4 145]
  exact Nat.mul_le_mul_right _ h
theorem zs {k : Int32} (hk : 0 ≤ k.toInt ∧ k.toInt ≤ 16) {n : Int64} (hn : 0 ≤ n.toInt) {a : UInt64} {j : Nat} (ha : DV j 0 a) (hj : 0 < j) :
    ∃ z1 z2 z4 z5, NN b32 z1 (val32 (l2f n)) ∧ NN b32 z2 (val32 (fmul (B k) (l2f n))) ∧ NN b64 z4 (val64 (ddiv (FP.f2d (fmul (B k) (l2f n))) a)) ∧ NN b64 z5 (val64 (ln (B k) n a)) := by
  obtain ⟨hb, hb'⟩ := bNN hk
  obtain ⟨z1, q1, h1⟩ := ln1 hn
  obtain ⟨z2, q2, h2⟩ := ln2 hb (le149 (by omega)) h1 q1
  have h3 := f2d_NN h2
  obtain ⟨z4, q4, h4⟩ := ln4 h3 (by rw [show (2 : Nat) ^ 1137 = 2 ^ 212 * 2 ^ 925 from Nat.pow_add 2 212 925]; exact Nat.mul_le_mul_right _ q2) ha hj
  have h6 := f2d_NN hb'
  obtain ⟨z5, -, h5⟩ := ln5 h6 (by
    refine Nat.le_trans (Nat.mul_le_mul_right (2 ^ 925) (le149 (j := 16 - k.toInt.toNat) (by omega))) ?_
    rw [← Nat.pow_add]; exact Nat.pow_le_pow_right (by decide) (by decide)) h4 q4
  exact ⟨z1, z2, z4, z5, h1, h2, h4, h5⟩
theorem chain {k : Int32} (hk : 0 ≤ k.toInt ∧ k.toInt ≤ 16) {n : Int64} (hn : 0 ≤ n.toInt) {a : UInt64} {j : Nat} (ha : DV j 0 a) (hj : 0 < j) :
    Jvm.Free.Fl.NoNaN32 (FP.fsub (1065353216 : UInt32) (B k)) ∧ Jvm.Free.Fl.NoNaN64 (FP.f2d (FP.fsub (1065353216 : UInt32) (B k))) ∧ Jvm.Free.Fl.NoNaN32 (FP.fmul (B k) (FP.l2f n)) ∧ Jvm.Free.Fl.NoNaN64 (FP.f2d (FP.fmul (B k) (FP.l2f n))) ∧ Jvm.Free.Fl.NoNaN64 (FP.ddiv (FP.f2d (FP.fmul (B k) (FP.l2f n))) a) ∧ Jvm.Free.Fl.NoNaN64 (FP.dadd (FP.f2d (FP.fsub (1065353216 : UInt32) (B k))) (FP.ddiv (FP.f2d (FP.fmul (B k) (FP.l2f n))) a)) := by
  obtain ⟨z1, z2, z4, z5, h1, h2, h4, h5⟩ := zs hk hn ha hj
  exact ⟨nn_32 (bNN hk).2, nn_64 (f2d_NN (bNN hk).2), nn_32 h2, nn_64 (f2d_NN h2), nn_64 h4, nn_64 h5⟩
theorem dNN {j : Nat} {a : UInt64} (h : DV j 0 a) (hj : 0 < j) : ∃ w, 0 < w ∧ NN b64 w (val64 a) := by
  unfold DV at h
  obtain ⟨s, c, q, e⟩ := val_fin h
  rw [e] at h
  obtain rfl : s = false := by rw [val_sign h (by omega)]; simp
  have hc : 0 < c := by have := val_zero h; omega
  exact ⟨inUnits c q b64.qmin, Nat.mul_pos hc (Nat.two_pow_pos _), c, q, e, val64_fits a, rfl⟩
theorem mono {k : Int32} (hk : 0 ≤ k.toInt ∧ k.toInt ≤ 16) {m n : Int64} (hm : 0 ≤ m.toInt) (hmn : m.toInt ≤ n.toInt) {a : UInt64} {j : Nat} (ha : DV j 0 a) (hj : 0 < j) :
    ¬ ((0 : Int32) < (Jvm.Op.cmpValue (FP.dcmp (ln (B k) m a) (ln (B k) n a)) .g)) := by
  obtain ⟨z1, z2, z4, z5, h1, h2, h4, h5⟩ := zs hk hm ha hj
  obtain ⟨y1, y2, y4, y5, g1, g2, g4, g5⟩ := zs hk (n := n) (by omega) ha hj
  obtain ⟨w, hw, hA⟩ := dNN ha hj
  have i1 : z1 ≤ y1 := l2f_mono hm hmn h1 g1
  have i2 : z2 ≤ y2 := fmul_mono (bNN hk).1 h1 g1 i1 h2 g2
  have i4 : z4 ≤ y4 := ddiv_mono hA hw (f2d_NN h2) (f2d_NN g2) (Nat.mul_le_mul_right _ i2) h4 g4
  have i5 : z5 ≤ y5 := dadd_mono (f2d_NN (bNN hk).2) h4 g4 i4 h5 g5
  have hz : ∀ {z : Nat} {x : UInt64}, NN b64 z (val64 x) → val64 x ≠ .nan := fun h => by
    obtain ⟨s, c, q, e⟩ := nn_fin h; rw [e]; exact Datum.noConfusion
  rw [show FP.dcmp (ln (B k) m a) (ln (B k) n a) = dcmp (ln (B k) m a) (ln (B k) n a) from rfl, dcmp_zval (hz h5) (hz g5), h5.zval, g5.zval]
  rcases Nat.lt_or_eq_of_le i5 with h | h
  · rw [(compare_lt_iff _ _).mpr (by omega)]; decide
  · rw [(compare_eq_iff _ _).mpr (by omega)]; decide
theorem exactly {k : Int32} (hk : 0 ≤ k.toInt ∧ k.toInt ≤ 16) {n : Int64} (hn : 0 ≤ n.toInt ∧ n.toInt < 524288) {a : Int64} {E : Nat} (ha : a.toInt = ((2 ^ E : Nat) : Int)) (hE : E ≤ 7) :
    DV ((16 - k.toInt) * ((2 ^ E : Nat) : Int) + k.toInt * n.toInt) (-4 - (E : Int)) (ln (B k) n (FP.l2d a)) := by
  obtain ⟨hb, hb'⟩ := bNN hk
  have hT : (2 : Nat) ^ E ≤ 2 ^ 7 := Nat.pow_le_pow_right (by decide) hE
  have hT1 := Nat.two_pow_pos E
  have hkn : 0 ≤ k.toInt * n.toInt := Int.mul_nonneg hk.1 hn.1
  have hkn2 : k.toInt * n.toInt ≤ 16 * 524288 := Int.mul_le_mul hk.2 (by omega) hn.1 (by decide)
  have hkt : 0 ≤ (16 - k.toInt) * ((2 ^ E : Nat) : Int) := Int.mul_nonneg (by omega) (by omega)
  have hkt2 : (16 - k.toInt) * ((2 ^ E : Nat) : Int) ≤ 16 * 128 := Int.mul_le_mul (by omega) (by omega) (by omega) (by decide)
  have v1 : Val k.toInt (-4) (val32 (B k)) := by
    have := nn_val hb
    refine (val_shift 145).mpr ?_
    rw [show (-4 : Int) - (145 : Nat) = b32.qmin by decide]
    rw [Int.natCast_mul, Int.toNat_of_nonneg hk.1] at this
    exact this
  have v2 : Val (16 - k.toInt) (-4) (val32 (FP.fsub (1065353216 : UInt32) (B k))) := by
    have := nn_val hb'
    refine (val_shift 145).mpr ?_
    rw [show (-4 : Int) - (145 : Nat) = b32.qmin by decide]
    rw [Int.natCast_mul, show ((16 - k.toInt.toNat : Nat) : Int) = 16 - k.toInt by omega] at this
    exact this
  have v3 : Val n.toInt 0 (val32 (l2f n)) := by
    rw [val32_l2f]; exact val_round good_b32 (val_ofInt _) (show n.toInt.natAbs < 2 ^ 24 by omega) (by decide) (by decide)
  have v4 : Val (k.toInt * n.toInt) (-4 + 0) (val32 (fmul (B k) (l2f n))) := by
    rw [val32_fmul]; exact val_round good_b32 (val_prod v1 v3) (show (k.toInt * n.toInt).natAbs < 2 ^ 24 by omega) (by decide) (by decide)
  have v5 : Val (k.toInt * n.toInt) (-4 + 0) (val64 (f2d (fmul (B k) (l2f n)))) := by
    rw [val64_f2d]; exact val_round good_b64 v4 (show (k.toInt * n.toInt).natAbs < 2 ^ 53 by omega) (by decide) (by decide)
  have v6 : Val (16 - k.toInt) (-4) (val64 (f2d (FP.fsub (1065353216 : UInt32) (B k)))) := by
    rw [val64_f2d]; exact val_round good_b64 v2 (show (16 - k.toInt).natAbs < 2 ^ 53 by omega) (by decide) (by decide)
  have va : DV 1 E (FP.l2d a) := by
    refine (dv_shift E).mpr ?_
    rw [Int.one_mul, Int.sub_self, ← ha]
    exact dv_l2d (by omega)
  have v7 := dv_div (k := k.toInt * n.toInt) v5 va (by decide) (by omega) (by omega) (by omega) (by omega)
  have v8 := (val_shift E).mp v6
  rw [show (-4 + 0 - (E : Int)) = -4 - (E : Int) by omega] at v7
  have e1 := nn_fin hb
  obtain ⟨z1, z2, z4, z5, h1, h2, h4, h5⟩ := zs hk (n := n) hn.1 (a := FP.l2d a) (j := 2 ^ E) (by rw [← ha]; exact dv_l2d (by omega)) (Nat.two_pow_pos E)
  rw [← f2d_nn h2] at v7
  rw [← f2d_nn hb'] at v8
  exact dv_add v8 v7 (by omega) (by omega) (by omega)
end Jvm.Pilot.@@N@@.LN
namespace Jvm.Pilot.@@N@@
open Jvm Jvm.ClassFile Sem Op Lib Jvm.Free Jvm.Stand Jvm.LawKit Jvm.RoadKit Bundle Jvm.Pilot.@@N@@.Jvm.D
theorem d1_0 : decode prog_1_method_3_code 0 = .ok (.fconst 1, 1) := by decide +kernel
theorem d1_1 : decode prog_1_method_3_code 1 = .ok (.fload_n 0, 1) := by decide +kernel
theorem d1_2 : decode prog_1_method_3_code 2 = .ok (.fsub, 1) := by decide +kernel
theorem d1_3 : decode prog_1_method_3_code 3 = .ok (.f2d, 1) := by decide +kernel
theorem d1_4 : decode prog_1_method_3_code 4 = .ok (.fload_n 0, 1) := by decide +kernel
theorem d1_5 : decode prog_1_method_3_code 5 = .ok (.lload_n 1, 1) := by decide +kernel
theorem d1_6 : decode prog_1_method_3_code 6 = .ok (.l2f, 1) := by decide +kernel
theorem d1_7 : decode prog_1_method_3_code 7 = .ok (.fmul, 1) := by decide +kernel
theorem d1_8 : decode prog_1_method_3_code 8 = .ok (.f2d, 1) := by decide +kernel
theorem d1_9 : decode prog_1_method_3_code 9 = .ok (.dload_n 3, 1) := by decide +kernel
theorem d1_10 : decode prog_1_method_3_code 10 = .ok (.ddiv, 1) := by decide +kernel
theorem d1_11 : decode prog_1_method_3_code 11 = .ok (.dadd, 1) := by decide +kernel
theorem d1_12 : decode prog_1_method_3_code 12 = .ok (.dreturn, 1) := by decide +kernel
theorem pn_1 : plainName "com/example/saffron/saffron/Bm25f" = true := by first | (simp [plainName, overriddenIn]; done) | decide +kernel
theorem ef_rm1 (m : MethodId) (x0 : UInt32) (x1 : Int64) (x2 : UInt64) : entryFrame m #[(.float x0), (.long x1), (.double x2)] 5 = mkF m 0 #[.val (.float x0), .val (.long x1), .second, .val (.double x2), .second] [] := by first | (simp [entryFrame, mkF, argsToLocals, Value.category]; done) | rfl
def Q_rm1 (Z : State) (b : UInt32) (n : Int64) (d : UInt64) (h0 : Heap) (n0 : Nat) (v : Option Value) (h : Heap) (L : List Loc) : Prop := v = some (.double (LN.ln b n d)) ∧ Fr n0 L ∧ h = h0
set_option maxRecDepth 65536 in
set_option maxHeartbeats 40000000 in
theorem rm1 (l : Launch) (Z : State) (a0 : Array Value) (hw : ∀ d ∈ tables_1, d.before a0 Z = true) (ws : List Jvm.Cond) (b : UInt32) (n : Int64) (d : UInt64) (h0 : Heap) (n0 : Nat) (Z0 : n0 ≤ h0.size) (nn1 : Jvm.Free.Fl.NoNaN32 (FP.fsub (1065353216 : UInt32) b)) (nn2 : Jvm.Free.Fl.NoNaN64 (FP.f2d (FP.fsub (1065353216 : UInt32) b))) (nn3 : Jvm.Free.Fl.NoNaN32 (FP.fmul b (FP.l2f n))) (nn4 : Jvm.Free.Fl.NoNaN64 (FP.f2d (FP.fmul b (FP.l2f n)))) (nn5 : Jvm.Free.Fl.NoNaN64 (FP.ddiv (FP.f2d (FP.fmul b (FP.l2f n))) d)) (nn6 : Jvm.Free.Fl.NoNaN64 (FP.dadd (FP.f2d (FP.fsub (1065353216 : UInt32) b)) (FP.ddiv (FP.f2d (FP.fmul b (FP.l2f n))) d))) :
    MetFree l (⟨"com/example/saffron/saffron/Bm25f", "lengthNorm", "(FJD)D"⟩ : MethodName) (head1 (Jvm.Cond.code (⟨"com/example/saffron/saffron/Bm25f", "lengthNorm", "(FJD)D"⟩ : MethodName) prog_1_method_3_code 5 (some .double) :: ws) ({ frames := 0, cells := 0, slots := 0, locals := 0 } : Room)) (fun av U => av = #[(.float b), (.long n), (.double d)] ∧ Z.Warmed39 U.vm ∧ U.heap = h0) (fun _ _ _ _ _ => True) (fun _ U o U' => ∃ v L, o = .returned v ∧ Q_rm1 Z b n d h0 n0 v U'.heap L ∧ FrameEnd U o U' L ({ frames := 0, cells := 0, slots := 0, locals := 0 } : Room).cells ({ frames := 0, cells := 0, slots := 0, locals := 0 } : Room).slots) := by
  refine MetFree.of_bodySF (plainFor_of_name pn_1) hisR ?_
  intro p e s m args below meth c s₁ Bd hml0 hP hK
  obtain ⟨rfl, hZ, hh⟩ := hP
  have hx := Bd.exec
  have hby := Bd.bytes
  have hml : c.maxLocals = 5 := hml0
  have hown : s.vm.findClass "com/example/saffron/saffron/Bm25f" = some m.cls := findClass_of_methodNamed Bd.named
  have hnm := (name_of_methodNamed Bd.named Bd.method).1
  have X0 : Stand p l e ({ frames := 0, cells := 0, slots := 0, locals := 0 } : Room) s m #[(.float b), (.long n), (.double d)] below meth c s₁ [] 0 0 := Stand.of_body Bd
  have e0 : s₁.heap = h0 := by rw [← hh, Bd.state]; rfl
  have N0 := Fr.nil n0
  have pre0 : ∀ t, Steps p.tables e below (s₁.setTop (mkF m 0 #[.val (.float b), .val (.long n), .second, .val (.double d), .second] [])) t → Steps p.tables e below (s₁.setTop (entryFrame m #[(.float b), (.long n), (.double d)] 5)) t := fun t k => castTop (ef_rm1 m b n d) k
  have sg1 : ∀ target, Steps p.tables e below (s₁.setTop (mkF m 12 #[.val (.float b), .val (.long n), .second, .val (.double d), .second] [(.double (LN.ln b n d))])) target → Steps p.tables e below (s₁.setTop (mkF m 0 #[.val (.float b), .val (.long n), .second, .val (.double d), .second] [])) target := by
    intro target kt
    show Steps p.tables e below (s₁.setTop (mkF m 0 #[.val (.float b), .val (.long n), .second, .val (.double d), .second] [])) _
    refine XS.fconst1 X0.here hx rfl (v := (1065353216 : UInt32)) (hb hby d1_0) rfl ?_
    show Steps p.tables e below (s₁.setTop (mkF m 1 #[.val (.float b), .val (.long n), .second, .val (.double d), .second] [(.float (1065353216 : UInt32))])) _
    refine XS.floadN X0.here hx rfl (hb hby d1_1) rfl ?_
    show Steps p.tables e below (s₁.setTop (mkF m 2 #[.val (.float b), .val (.long n), .second, .val (.double d), .second] [(.float b), (.float (1065353216 : UInt32))])) _
    refine XS.fsubS X0.here hx rfl (v := (FP.fsub (1065353216 : UInt32) b)) (hb hby d1_2) rfl nn1 rfl ?_
    show Steps p.tables e below (s₁.setTop (mkF m 3 #[.val (.float b), .val (.long n), .second, .val (.double d), .second] [(.float (FP.fsub (1065353216 : UInt32) b))])) _
    refine XS.f2dS X0.here hx rfl (v := (FP.f2d (FP.fsub (1065353216 : UInt32) b))) (hb hby d1_3) rfl nn2 rfl ?_
    show Steps p.tables e below (s₁.setTop (mkF m 4 #[.val (.float b), .val (.long n), .second, .val (.double d), .second] [(.double (FP.f2d (FP.fsub (1065353216 : UInt32) b)))])) _
    refine XS.floadN X0.here hx rfl (hb hby d1_4) rfl ?_
    show Steps p.tables e below (s₁.setTop (mkF m 5 #[.val (.float b), .val (.long n), .second, .val (.double d), .second] [(.float b), (.double (FP.f2d (FP.fsub (1065353216 : UInt32) b)))])) _
    refine XS.lloadN X0.here hx rfl (hb hby d1_5) rfl ?_
    show Steps p.tables e below (s₁.setTop (mkF m 6 #[.val (.float b), .val (.long n), .second, .val (.double d), .second] [(.long n), (.float b), (.double (FP.f2d (FP.fsub (1065353216 : UInt32) b)))])) _
    refine XS.l2fS X0.here hx rfl (v := (FP.l2f n)) (hb hby d1_6) rfl rfl ?_
    show Steps p.tables e below (s₁.setTop (mkF m 7 #[.val (.float b), .val (.long n), .second, .val (.double d), .second] [(.float (FP.l2f n)), (.float b), (.double (FP.f2d (FP.fsub (1065353216 : UInt32) b)))])) _
    refine XS.fmulS X0.here hx rfl (v := (FP.fmul b (FP.l2f n))) (hb hby d1_7) rfl nn3 rfl ?_
    show Steps p.tables e below (s₁.setTop (mkF m 8 #[.val (.float b), .val (.long n), .second, .val (.double d), .second] [(.float (FP.fmul b (FP.l2f n))), (.double (FP.f2d (FP.fsub (1065353216 : UInt32) b)))])) _
    refine XS.f2dS X0.here hx rfl (v := (FP.f2d (FP.fmul b (FP.l2f n)))) (hb hby d1_8) rfl nn4 rfl ?_
    show Steps p.tables e below (s₁.setTop (mkF m 9 #[.val (.float b), .val (.long n), .second, .val (.double d), .second] [(.double (FP.f2d (FP.fmul b (FP.l2f n)))), (.double (FP.f2d (FP.fsub (1065353216 : UInt32) b)))])) _
    refine XS.dloadN X0.here hx rfl (hb hby d1_9) rfl ?_
    show Steps p.tables e below (s₁.setTop (mkF m 10 #[.val (.float b), .val (.long n), .second, .val (.double d), .second] [(.double d), (.double (FP.f2d (FP.fmul b (FP.l2f n)))), (.double (FP.f2d (FP.fsub (1065353216 : UInt32) b)))])) _
    refine XS.ddivS X0.here hx rfl (v := (FP.ddiv (FP.f2d (FP.fmul b (FP.l2f n))) d)) (hb hby d1_10) rfl nn5 rfl ?_
    show Steps p.tables e below (s₁.setTop (mkF m 11 #[.val (.float b), .val (.long n), .second, .val (.double d), .second] [(.double (FP.ddiv (FP.f2d (FP.fmul b (FP.l2f n))) d)), (.double (FP.f2d (FP.fsub (1065353216 : UInt32) b)))])) _
    refine XS.daddS X0.here hx rfl (v := (LN.ln b n d)) (hb hby d1_11) rfl nn6 rfl ?_
    exact kt
  obtain ⟨fs, hr, hrun, hended, hW, hsame⟩ := X0.leave (v := some (.double (LN.ln b n d))) (fun h => by rw [Bd.returns] at h; cases h)
  refine ⟨_, _, pre0 _ ?_, hrun, hended, _, _, rfl, ?_, ⟨_, rfl⟩, hW, hsame.mono (by decide) (by decide)⟩
  · show Steps p.tables e below (s₁.setTop (mkF m 0 #[.val (.float b), .val (.long n), .second, .val (.double d), .second] [])) _
    refine sg1 _ ?_
    show Steps p.tables e below (s₁.setTop (mkF m 12 #[.val (.float b), .val (.long n), .second, .val (.double d), .second] [(.double (LN.ln b n d))])) _
    exact retOut X0 hx Bd.returns rfl (Or.inr (Or.inr (Or.inl ⟨rfl, rfl, _, rfl⟩))) (hb hby d1_12) hr
  · show Q_rm1 Z b n d h0 n0 _ s₁.heap _
    rw [e0]
    exact ⟨rfl, N0, rfl⟩
def own_min (x y : Int64) : Int64 := if (0 : Int32) < (lcmpW x y) then y else x
def own_max (x y : Int64) : Int64 := if (lcmpW x y) < (0 : Int32) then y else x
theorem d2_0 : decode jdk_29_method_70_code 0 = .ok (.lload_n 0, 1) := by decide +kernel
theorem d2_1 : decode jdk_29_method_70_code 1 = .ok (.lload_n 2, 1) := by decide +kernel
theorem d2_2 : decode jdk_29_method_70_code 2 = .ok (.lcmp, 1) := by decide +kernel
theorem d2_3 : decode jdk_29_method_70_code 3 = .ok (.ifCond .gt 7, 3) := by decide +kernel
theorem d2_10 : decode jdk_29_method_70_code 10 = .ok (.lload_n 2, 1) := by decide +kernel
theorem d2_11 : decode jdk_29_method_70_code 11 = .ok (.lreturn, 1) := by decide +kernel
theorem d2_6 : decode jdk_29_method_70_code 6 = .ok (.lload_n 0, 1) := by decide +kernel
theorem d2_7 : decode jdk_29_method_70_code 7 = .ok (.goto 4, 3) := by decide +kernel
theorem ef_rmin (m : MethodId) (x0 : Int64) (x1 : Int64) : entryFrame m #[(.long x0), (.long x1)] 4 = mkF m 0 #[.val (.long x0), .second, .val (.long x1), .second] [] := by first | (simp [entryFrame, mkF, argsToLocals, Value.category]; done) | rfl
def Q_rmin (Z : State) (x : Int64) (y : Int64) (h0 : Heap) (n0 : Nat) (v : Option Value) (h : Heap) (L : List Loc) : Prop := v = some (.long (own_min x y)) ∧ Fr n0 L ∧ h = h0
set_option maxRecDepth 65536 in
set_option maxHeartbeats 40000000 in
theorem rmin (l : Launch) (Z : State) (a0 : Array Value) (hw : ∀ d ∈ tables_1, d.before a0 Z = true) (ws : List Jvm.Cond) (x : Int64) (y : Int64) (h0 : Heap) (n0 : Nat) (Z0 : n0 ≤ h0.size) :
    MetFree l (⟨"java/lang/Math", "min", "(JJ)J"⟩ : MethodName) (head1 (Jvm.Cond.code (⟨"java/lang/Math", "min", "(JJ)J"⟩ : MethodName) jdk_29_method_70_code 4 (some .long) :: ws) ({ frames := 0, cells := 0, slots := 0, locals := 0 } : Room)) (fun av U => av = #[(.long x), (.long y)] ∧ Z.Warmed39 U.vm ∧ U.heap = h0) (fun _ _ _ _ _ => True) (fun _ U o U' => ∃ v L, o = .returned v ∧ Q_rmin Z x y h0 n0 v U'.heap L ∧ FrameEnd U o U' L ({ frames := 0, cells := 0, slots := 0, locals := 0 } : Room).cells ({ frames := 0, cells := 0, slots := 0, locals := 0 } : Room).slots) := by
  refine MetFree.of_bodySF (Jvm.Free.JP.mathPlain rfl (by decide +kernel)) hisR ?_
  intro p e s m args below meth c s₁ Bd hml0 hP hK
  obtain ⟨rfl, hZ, hh⟩ := hP
  have hx := Bd.exec
  have hby := Bd.bytes
  have hml : c.maxLocals = 4 := hml0
  have hown : s.vm.findClass "java/lang/Math" = some m.cls := findClass_of_methodNamed Bd.named
  have hnm := (name_of_methodNamed Bd.named Bd.method).1
  have X0 : Stand p l e ({ frames := 0, cells := 0, slots := 0, locals := 0 } : Room) s m #[(.long x), (.long y)] below meth c s₁ [] 0 0 := Stand.of_body Bd
  have e0 : s₁.heap = h0 := by rw [← hh, Bd.state]; rfl
  have N0 := Fr.nil n0
  have pre0 : ∀ t, Steps p.tables e below (s₁.setTop (mkF m 0 #[.val (.long x), .second, .val (.long y), .second] [])) t → Steps p.tables e below (s₁.setTop (entryFrame m #[(.long x), (.long y)] 4)) t := fun t k => castTop (ef_rmin m x y) k
  have sg1 : ∀ target, Steps p.tables e below (s₁.setTop (mkF m 3 #[.val (.long x), .second, .val (.long y), .second] [(.int (lcmpW x y))])) target → Steps p.tables e below (s₁.setTop (mkF m 0 #[.val (.long x), .second, .val (.long y), .second] [])) target := by
    intro target kt
    show Steps p.tables e below (s₁.setTop (mkF m 0 #[.val (.long x), .second, .val (.long y), .second] [])) _
    refine XS.lloadN X0.here hx rfl (hb hby d2_0) rfl ?_
    show Steps p.tables e below (s₁.setTop (mkF m 1 #[.val (.long x), .second, .val (.long y), .second] [(.long x)])) _
    refine XS.lloadN X0.here hx rfl (hb hby d2_1) rfl ?_
    show Steps p.tables e below (s₁.setTop (mkF m 2 #[.val (.long x), .second, .val (.long y), .second] [(.long y), (.long x)])) _
    refine XS.lcmp X0.here hx rfl (hb hby d2_2) rfl ?_
    exact kt
  by_cases hm : (0 : Int32) < (lcmpW x y)
  · have sg2 : ∀ target, Steps p.tables e below (s₁.setTop (mkF m 11 #[.val (.long x), .second, .val (.long y), .second] [(.long y)])) target → Steps p.tables e below (s₁.setTop (mkF m 3 #[.val (.long x), .second, .val (.long y), .second] [(.int (lcmpW x y))])) target := by
      intro target kt
      show Steps p.tables e below (s₁.setTop (mkF m 3 #[.val (.long x), .second, .val (.long y), .second] [(.int (lcmpW x y))])) _
      refine XS.ifYes X0.here hx rfl (pc0 := 3) (pc' := 10) rfl (hb hby d2_3) rfl ((if0 _ _).trans (tlt (hm : (0 : Int32) < (lcmpW x y))).2.2.1) (by decide) (by decide) ?_
      show Steps p.tables e below (s₁.setTop (mkF m 10 #[.val (.long x), .second, .val (.long y), .second] [])) _
      refine XS.lloadN X0.here hx rfl (hb hby d2_10) rfl ?_
      exact kt
    obtain ⟨fs, hr, hrun, hended, hW, hsame⟩ := X0.leave (v := some (.long y)) (fun h => by rw [Bd.returns] at h; cases h)
    refine ⟨_, _, pre0 _ ?_, hrun, hended, _, _, rfl, ?_, ⟨_, rfl⟩, hW, hsame.mono (by decide) (by decide)⟩
    · show Steps p.tables e below (s₁.setTop (mkF m 0 #[.val (.long x), .second, .val (.long y), .second] [])) _
      refine sg1 _ ?_
      refine sg2 _ ?_
      show Steps p.tables e below (s₁.setTop (mkF m 11 #[.val (.long x), .second, .val (.long y), .second] [(.long y)])) _
      exact retOut X0 hx Bd.returns rfl (Or.inr (Or.inl ⟨rfl, rfl, _, rfl⟩)) (hb hby d2_11) hr
    · show Q_rmin Z x y h0 n0 _ s₁.heap _
      rw [e0]
      exact ⟨(by unfold own_min; rw [if_pos hm]), N0, rfl⟩
  · have sg3 : ∀ target, Steps p.tables e below (s₁.setTop (mkF m 11 #[.val (.long x), .second, .val (.long y), .second] [(.long x)])) target → Steps p.tables e below (s₁.setTop (mkF m 3 #[.val (.long x), .second, .val (.long y), .second] [(.int (lcmpW x y))])) target := by
      intro target kt
      show Steps p.tables e below (s₁.setTop (mkF m 3 #[.val (.long x), .second, .val (.long y), .second] [(.int (lcmpW x y))])) _
      refine XS.ifNo X0.here hx rfl (hb hby d2_3) rfl ((if0 _ _).trans (flt (hm : ¬ ((0 : Int32) < (lcmpW x y)))).2.2.1) ?_
      show Steps p.tables e below (s₁.setTop (mkF m 6 #[.val (.long x), .second, .val (.long y), .second] [])) _
      refine XS.lloadN X0.here hx rfl (hb hby d2_6) rfl ?_
      show Steps p.tables e below (s₁.setTop (mkF m 7 #[.val (.long x), .second, .val (.long y), .second] [(.long x)])) _
      refine XS.goto X0.here hx rfl (pc0 := 7) (pc' := 11) rfl (hb hby d2_7) (by decide) (by decide) ?_
      exact kt
    obtain ⟨fs, hr, hrun, hended, hW, hsame⟩ := X0.leave (v := some (.long x)) (fun h => by rw [Bd.returns] at h; cases h)
    refine ⟨_, _, pre0 _ ?_, hrun, hended, _, _, rfl, ?_, ⟨_, rfl⟩, hW, hsame.mono (by decide) (by decide)⟩
    · show Steps p.tables e below (s₁.setTop (mkF m 0 #[.val (.long x), .second, .val (.long y), .second] [])) _
      refine sg1 _ ?_
      refine sg3 _ ?_
      show Steps p.tables e below (s₁.setTop (mkF m 11 #[.val (.long x), .second, .val (.long y), .second] [(.long x)])) _
      exact retOut X0 hx Bd.returns rfl (Or.inr (Or.inl ⟨rfl, rfl, _, rfl⟩)) (hb hby d2_11) hr
    · show Q_rmin Z x y h0 n0 _ s₁.heap _
      rw [e0]
      exact ⟨(by unfold own_min; rw [if_neg hm]), N0, rfl⟩
theorem d3_0 : decode jdk_29_method_66_code 0 = .ok (.lload_n 0, 1) := by decide +kernel
theorem d3_1 : decode jdk_29_method_66_code 1 = .ok (.lload_n 2, 1) := by decide +kernel
theorem d3_2 : decode jdk_29_method_66_code 2 = .ok (.lcmp, 1) := by decide +kernel
theorem d3_3 : decode jdk_29_method_66_code 3 = .ok (.ifCond .lt 7, 3) := by decide +kernel
theorem d3_10 : decode jdk_29_method_66_code 10 = .ok (.lload_n 2, 1) := by decide +kernel
theorem d3_11 : decode jdk_29_method_66_code 11 = .ok (.lreturn, 1) := by decide +kernel
theorem d3_6 : decode jdk_29_method_66_code 6 = .ok (.lload_n 0, 1) := by decide +kernel
theorem d3_7 : decode jdk_29_method_66_code 7 = .ok (.goto 4, 3) := by decide +kernel
theorem ef_rmax (m : MethodId) (x0 : Int64) (x1 : Int64) : entryFrame m #[(.long x0), (.long x1)] 4 = mkF m 0 #[.val (.long x0), .second, .val (.long x1), .second] [] := by first | (simp [entryFrame, mkF, argsToLocals, Value.category]; done) | rfl
def Q_rmax (Z : State) (x : Int64) (y : Int64) (h0 : Heap) (n0 : Nat) (v : Option Value) (h : Heap) (L : List Loc) : Prop := v = some (.long (own_max x y)) ∧ Fr n0 L ∧ h = h0
set_option maxRecDepth 65536 in
set_option maxHeartbeats 40000000 in
theorem rmax (l : Launch) (Z : State) (a0 : Array Value) (hw : ∀ d ∈ tables_1, d.before a0 Z = true) (ws : List Jvm.Cond) (x : Int64) (y : Int64) (h0 : Heap) (n0 : Nat) (Z0 : n0 ≤ h0.size) :
    MetFree l (⟨"java/lang/Math", "max", "(JJ)J"⟩ : MethodName) (head1 (Jvm.Cond.code (⟨"java/lang/Math", "max", "(JJ)J"⟩ : MethodName) jdk_29_method_66_code 4 (some .long) :: ws) ({ frames := 0, cells := 0, slots := 0, locals := 0 } : Room)) (fun av U => av = #[(.long x), (.long y)] ∧ Z.Warmed39 U.vm ∧ U.heap = h0) (fun _ _ _ _ _ => True) (fun _ U o U' => ∃ v L, o = .returned v ∧ Q_rmax Z x y h0 n0 v U'.heap L ∧ FrameEnd U o U' L ({ frames := 0, cells := 0, slots := 0, locals := 0 } : Room).cells ({ frames := 0, cells := 0, slots := 0, locals := 0 } : Room).slots) := by
  refine MetFree.of_bodySF (Jvm.Free.JP.mathPlain rfl (by decide +kernel)) hisR ?_
  intro p e s m args below meth c s₁ Bd hml0 hP hK
  obtain ⟨rfl, hZ, hh⟩ := hP
  have hx := Bd.exec
  have hby := Bd.bytes
  have hml : c.maxLocals = 4 := hml0
  have hown : s.vm.findClass "java/lang/Math" = some m.cls := findClass_of_methodNamed Bd.named
  have hnm := (name_of_methodNamed Bd.named Bd.method).1
  have X0 : Stand p l e ({ frames := 0, cells := 0, slots := 0, locals := 0 } : Room) s m #[(.long x), (.long y)] below meth c s₁ [] 0 0 := Stand.of_body Bd
  have e0 : s₁.heap = h0 := by rw [← hh, Bd.state]; rfl
  have N0 := Fr.nil n0
  have pre0 : ∀ t, Steps p.tables e below (s₁.setTop (mkF m 0 #[.val (.long x), .second, .val (.long y), .second] [])) t → Steps p.tables e below (s₁.setTop (entryFrame m #[(.long x), (.long y)] 4)) t := fun t k => castTop (ef_rmax m x y) k
  have sg1 : ∀ target, Steps p.tables e below (s₁.setTop (mkF m 3 #[.val (.long x), .second, .val (.long y), .second] [(.int (lcmpW x y))])) target → Steps p.tables e below (s₁.setTop (mkF m 0 #[.val (.long x), .second, .val (.long y), .second] [])) target := by
    intro target kt
    show Steps p.tables e below (s₁.setTop (mkF m 0 #[.val (.long x), .second, .val (.long y), .second] [])) _
    refine XS.lloadN X0.here hx rfl (hb hby d3_0) rfl ?_
    show Steps p.tables e below (s₁.setTop (mkF m 1 #[.val (.long x), .second, .val (.long y), .second] [(.long x)])) _
    refine XS.lloadN X0.here hx rfl (hb hby d3_1) rfl ?_
    show Steps p.tables e below (s₁.setTop (mkF m 2 #[.val (.long x), .second, .val (.long y), .second] [(.long y), (.long x)])) _
    refine XS.lcmp X0.here hx rfl (hb hby d3_2) rfl ?_
    exact kt
  by_cases hm : (lcmpW x y) < (0 : Int32)
  · have sg2 : ∀ target, Steps p.tables e below (s₁.setTop (mkF m 11 #[.val (.long x), .second, .val (.long y), .second] [(.long y)])) target → Steps p.tables e below (s₁.setTop (mkF m 3 #[.val (.long x), .second, .val (.long y), .second] [(.int (lcmpW x y))])) target := by
      intro target kt
      show Steps p.tables e below (s₁.setTop (mkF m 3 #[.val (.long x), .second, .val (.long y), .second] [(.int (lcmpW x y))])) _
      refine XS.ifYes X0.here hx rfl (pc0 := 3) (pc' := 10) rfl (hb hby d3_3) rfl ((if0 _ _).trans (tlt (hm : (lcmpW x y) < (0 : Int32))).1) (by decide) (by decide) ?_
      show Steps p.tables e below (s₁.setTop (mkF m 10 #[.val (.long x), .second, .val (.long y), .second] [])) _
      refine XS.lloadN X0.here hx rfl (hb hby d3_10) rfl ?_
      exact kt
    obtain ⟨fs, hr, hrun, hended, hW, hsame⟩ := X0.leave (v := some (.long y)) (fun h => by rw [Bd.returns] at h; cases h)
    refine ⟨_, _, pre0 _ ?_, hrun, hended, _, _, rfl, ?_, ⟨_, rfl⟩, hW, hsame.mono (by decide) (by decide)⟩
    · show Steps p.tables e below (s₁.setTop (mkF m 0 #[.val (.long x), .second, .val (.long y), .second] [])) _
      refine sg1 _ ?_
      refine sg2 _ ?_
      show Steps p.tables e below (s₁.setTop (mkF m 11 #[.val (.long x), .second, .val (.long y), .second] [(.long y)])) _
      exact retOut X0 hx Bd.returns rfl (Or.inr (Or.inl ⟨rfl, rfl, _, rfl⟩)) (hb hby d3_11) hr
    · show Q_rmax Z x y h0 n0 _ s₁.heap _
      rw [e0]
      exact ⟨(by unfold own_max; rw [if_pos hm]), N0, rfl⟩
  · have sg3 : ∀ target, Steps p.tables e below (s₁.setTop (mkF m 11 #[.val (.long x), .second, .val (.long y), .second] [(.long x)])) target → Steps p.tables e below (s₁.setTop (mkF m 3 #[.val (.long x), .second, .val (.long y), .second] [(.int (lcmpW x y))])) target := by
      intro target kt
      show Steps p.tables e below (s₁.setTop (mkF m 3 #[.val (.long x), .second, .val (.long y), .second] [(.int (lcmpW x y))])) _
      refine XS.ifNo X0.here hx rfl (hb hby d3_3) rfl ((if0 _ _).trans (flt (hm : ¬ ((lcmpW x y) < (0 : Int32)))).1) ?_
      show Steps p.tables e below (s₁.setTop (mkF m 6 #[.val (.long x), .second, .val (.long y), .second] [])) _
      refine XS.lloadN X0.here hx rfl (hb hby d3_6) rfl ?_
      show Steps p.tables e below (s₁.setTop (mkF m 7 #[.val (.long x), .second, .val (.long y), .second] [(.long x)])) _
      refine XS.goto X0.here hx rfl (pc0 := 7) (pc' := 11) rfl (hb hby d3_7) (by decide) (by decide) ?_
      exact kt
    obtain ⟨fs, hr, hrun, hended, hW, hsame⟩ := X0.leave (v := some (.long x)) (fun h => by rw [Bd.returns] at h; cases h)
    refine ⟨_, _, pre0 _ ?_, hrun, hended, _, _, rfl, ?_, ⟨_, rfl⟩, hW, hsame.mono (by decide) (by decide)⟩
    · show Steps p.tables e below (s₁.setTop (mkF m 0 #[.val (.long x), .second, .val (.long y), .second] [])) _
      refine sg1 _ ?_
      refine sg3 _ ?_
      show Steps p.tables e below (s₁.setTop (mkF m 11 #[.val (.long x), .second, .val (.long y), .second] [(.long x)])) _
      exact retOut X0 hx Bd.returns rfl (Or.inr (Or.inl ⟨rfl, rfl, _, rfl⟩)) (hb hby d3_11) hr
    · show Q_rmax Z x y h0 n0 _ s₁.heap _
      rw [e0]
      exact ⟨(by unfold own_max; rw [if_neg hm]), N0, rfl⟩
def own_k (q : Int32) : Int32 := ((q &&& (2147483647 : Int32)) % (17 : Int32))
def own_a (q : Int32) : Int64 := ((1 : Int64) <<< ((q &&& (7 : Int32)) &&& 0x3f).toInt64)
def own_n (q : Int64) : Int64 := (q &&& (524287 : Int64))
def own_N (k : Int32) (a n : Int64) : Int64 := ((((16 : Int64) - (k).toInt64) * a) + ((k).toInt64 * n))
def own_j (q : Int32) : Int32 := ((q &&& (1023 : Int32)) + (1 : Int32))
def own_p (q : Int64) : Int64 := (q &&& (9223372036854775807 : Int64))
theorem own_k_rng (q : Int32) : 0 ≤ (own_k q).toInt ∧ (own_k q).toInt ≤ 16 := by
  have h1 := c_mask q (2147483647 : Int32) 31 (by decide) (by decide)
  have h2 : 0 ≤ (q &&& (2147483647 : Int32)).toInt := by rw [h1]; exact Int.emod_nonneg _ (by decide)
  unfold own_k
  rw [Int32.toInt_mod, show (17 : Int32).toInt = 17 by decide, Int.tmod_eq_emod_of_nonneg h2]
  have := Int.emod_nonneg (q &&& (2147483647 : Int32)).toInt (show (17 : Int) ≠ 0 by decide)
  have := Int.emod_lt_of_pos (q &&& (2147483647 : Int32)).toInt (show (0 : Int) < 17 by decide)
  omega
theorem own_atab : ∀ j : Nat, j < 8 → ((1 : Int64) <<< ((Int32.ofInt j) &&& 0x3f).toInt64).toInt = ((2 ^ j : Nat) : Int) := by decide +kernel
theorem own_a_val (q : Int32) : ∃ E : Nat, E ≤ 7 ∧ (own_a q).toInt = ((2 ^ E : Nat) : Int) := by
  have h1 := c_mask q (7 : Int32) 3 (by decide) (by decide)
  have h2 := Int.emod_nonneg q.toInt (show ((2 ^ 3 : Nat) : Int) ≠ 0 by decide)
  have h3 := Int.emod_lt_of_pos q.toInt (show (0 : Int) < ((2 ^ 3 : Nat) : Int) by decide)
  rw [← h1] at h2 h3
  refine ⟨(q &&& (7 : Int32)).toInt.toNat, by omega, ?_⟩
  have t := own_atab (q &&& (7 : Int32)).toInt.toNat (by omega)
  rw [Int.toNat_of_nonneg h2, Int32.ofInt_toInt] at t
  exact t
theorem own_n_rng (q : Int64) : 0 ≤ (own_n q).toInt ∧ (own_n q).toInt < 524288 := by
  have h1 := c_maskL q (524287 : Int64) 19 (by decide) (by decide)
  unfold own_n; rw [h1]
  have := Int.emod_nonneg q.toInt (show ((2 ^ 19 : Nat) : Int) ≠ 0 by decide)
  have := Int.emod_lt_of_pos q.toInt (show (0 : Int) < ((2 ^ 19 : Nat) : Int) by decide)
  omega
theorem own_p_rng (q : Int64) : 0 ≤ (own_p q).toInt := by
  have h1 := c_maskL q (9223372036854775807 : Int64) 63 (by decide) (by decide)
  unfold own_p; rw [h1]; exact Int.emod_nonneg _ (by decide)
theorem own_j_val (q : Int32) : ∃ j : Nat, 0 < j ∧ (own_j q).toInt = (j : Int) := by
  have h1 := c_mask q (1023 : Int32) 10 (by decide) (by decide)
  have h2 := Int.emod_nonneg q.toInt (show ((2 ^ 10 : Nat) : Int) ≠ 0 by decide)
  have h3 := Int.emod_lt_of_pos q.toInt (show (0 : Int) < ((2 ^ 10 : Nat) : Int) by decide)
  rw [← h1] at h2 h3
  have e : (own_j q).toInt = (q &&& (1023 : Int32)).toInt + 1 := by
    unfold own_j; rw [Int32.toInt_add, show (1 : Int32).toInt = 1 by decide]; exact Int.bmod_eq_of_le (by omega) (by omega)
  exact ⟨(own_j q).toInt.toNat, by omega, by omega⟩
theorem own_dj {q : Int32} {j : Nat} (h : (own_j q).toInt = (j : Int)) : FV.DV j 0 (FP.i2d (own_j q)) := by rw [← h]; exact FV.dv_i2d _
theorem own_da {q : Int32} {E : Nat} (h7 : E ≤ 7) (h : (own_a q).toInt = ((2 ^ E : Nat) : Int)) : FV.DV ((2 ^ E : Nat) : Int) 0 (FP.l2d (own_a q)) := by
  have hT : (2 : Nat) ^ E ≤ 2 ^ 7 := Nat.pow_le_pow_right (by decide) h7
  have hb : (own_a q).toInt.natAbs ≤ 2 ^ 53 := by rw [h, Int.natAbs_natCast]; exact Nat.le_trans hT (by decide)
  rw [← h]; exact FV.dv_l2d hb
theorem own_b_nn (q : Int32) : Jvm.Free.Fl.NoNaN32 (FP.fdiv (FP.i2f (own_k q)) (1098907648 : UInt32)) := LN.nn_32 (LN.bNN (own_k_rng q)).1
theorem own_ex {k : Int32} (hk : 0 ≤ k.toInt ∧ k.toInt ≤ 16) {n : Int64} (hn : 0 ≤ n.toInt ∧ n.toInt < 524288) {a : Int64} {E : Nat} (hE : E ≤ 7) (ha : a.toInt = ((2 ^ E : Nat) : Int)) :
    Jvm.Free.Fl.NoNaN64 (FP.dmul (LN.ln (LN.B k) n (FP.l2d a)) (FP.l2d ((16 : Int64) * a))) ∧ cmpValue (FP.dcmp (FP.dmul (LN.ln (LN.B k) n (FP.l2d a)) (FP.l2d ((16 : Int64) * a))) (FP.l2d (own_N k a n))) .l = (0 : Int32) := by
  have hT : (2 : Nat) ^ E ≤ 2 ^ 7 := Nat.pow_le_pow_right (by decide) hE
  have hT1 := Nat.two_pow_pos E
  have v := LN.exactly hk hn ha hE
  have hkn : 0 ≤ k.toInt * n.toInt := Int.mul_nonneg hk.1 hn.1
  have hkn2 : k.toInt * n.toInt ≤ 16 * 524288 := Int.mul_le_mul hk.2 (by omega) hn.1 (by decide)
  have hkt : 0 ≤ (16 - k.toInt) * ((2 ^ E : Nat) : Int) := Int.mul_nonneg (by omega) (by omega)
  have hkt2 : (16 - k.toInt) * ((2 ^ E : Nat) : Int) ≤ 16 * 128 := Int.mul_le_mul (by omega) (by omega) (by omega) (by decide)
  have e16 : (16 : Int64).toInt = 16 := by decide
  have em : ((16 : Int64) * a).toInt = 16 * ((2 ^ E : Nat) : Int) := by rw [Jvm.FP.Core.int64_mul (by rw [e16, ha]; omega) (by rw [e16, ha]; omega), e16, ha]
  have vm : FV.DV 1 (4 + (E : Int)) (FP.l2d ((16 : Int64) * a)) := by
    have h0 := FV.dv_l2d (n := (16 : Int64) * a) (by omega)
    refine (FV.dv_shift (4 + E)).mpr ?_
    rw [Int.one_mul, show (4 + (E : Int)) - ((4 + E : Nat) : Int) = 0 by omega, Nat.pow_add, Int.natCast_mul]
    rw [em] at h0
    exact h0
  have ek : (k.toInt64).toInt = k.toInt := Int32.toInt_toInt64 k
  have es : ((16 : Int64) - k.toInt64).toInt = 16 - k.toInt := by rw [Jvm.FP.Core.int64_sub (by rw [e16, ek]; omega) (by rw [e16, ek]; omega), e16, ek]
  have e1 : (((16 : Int64) - k.toInt64) * a).toInt = (16 - k.toInt) * ((2 ^ E : Nat) : Int) := by rw [Jvm.FP.Core.int64_mul (by rw [es, ha]; omega) (by rw [es, ha]; omega), es, ha]
  have e2 : (k.toInt64 * n).toInt = k.toInt * n.toInt := by rw [Jvm.FP.Core.int64_mul (by rw [ek]; omega) (by rw [ek]; omega), ek]
  have eN : (own_N k a n).toInt = (16 - k.toInt) * ((2 ^ E : Nat) : Int) + k.toInt * n.toInt := by
    unfold own_N; rw [Jvm.FP.Core.int64_add (by rw [e1, e2]; omega) (by rw [e1, e2]; omega), e1, e2]
  have vN := FV.dv_l2d (n := own_N k a n) (by omega)
  rw [eN] at vN
  have vp := FV.dv_mul v vm (by rw [Int.mul_one]; omega) (by omega) (by omega)
  rw [Int.mul_one, show -4 - (E : Int) + (4 + (E : Int)) = 0 by omega] at vp
  exact ⟨vp.nn, FV.cv_eq vp vN .l rfl⟩
theorem own_mm (x y : Int64) (hx : 0 ≤ x.toInt) (hy : 0 ≤ y.toInt) : 0 ≤ (own_min x y).toInt ∧ (own_min x y).toInt ≤ (own_max x y).toInt := by
  unfold own_min own_max
  simp only [lw_gt, lw_lt, Int64.lt_iff_toInt_lt]
  by_cases h1 : y.toInt < x.toInt
  · rw [if_pos h1]
    by_cases h2 : x.toInt < y.toInt
    · omega
    · rw [if_neg h2]; omega
  · rw [if_neg h1]
    by_cases h2 : x.toInt < y.toInt
    · rw [if_pos h2]; omega
    · rw [if_neg h2]; omega
theorem pd_1 : parseMethodDescriptor "(FJD)D" = some ⟨[.float, .long, .double], some .double⟩ := by decide +kernel
theorem pd_2 : parseMethodDescriptor "(JJ)J" = some ⟨[.long, .long], some .long⟩ := by decide +kernel
theorem pn_0 : plainName "com/example/saffron/saffron/Bm25fLengthNormPinLaw" = true := by first | (simp [plainName, overriddenIn]; done) | decide +kernel
theorem ef_rm0 (m : MethodId) (x0 : Int32) (x1 : Int64) (x2 : Int32) (x3 : Int64) (x4 : Int32) : entryFrame m #[(.int x0), (.long x1), (.int x2), (.long x3), (.int x4)] maxLocals = mkF m 0 #[.val (.int x0), .val (.long x1), .second, .val (.int x2), .val (.long x3), .second, .val (.int x4), .unset, .unset, .unset, .unset, .unset, .unset, .unset, .unset, .unset, .unset, .unset, .unset, .unset, .unset, .unset, .unset, .unset, .unset, .unset, .unset, .unset, .unset, .unset, .unset, .unset, .unset, .unset] [] := by first | (simp [entryFrame, mkF, argsToLocals, Value.category, maxLocals]; done) | rfl
def Q_rm0 (Z : State) (p1 : Int32) (q2 : Int64) (p3 : Int32) (q4 : Int64) (p5 : Int32) (h0 : Heap) (n0 : Nat) (v : Option Value) (h : Heap) (L : List Loc) : Prop := v = some (.int 1) ∧ Fr n0 L
set_option maxRecDepth 65536 in
set_option maxHeartbeats 40000000 in
theorem rm0 (l : Launch) (Z : State) (a0 : Array Value) (hw : ∀ d ∈ tables_1, d.before a0 Z = true) (ws : List Jvm.Cond) (p1 : Int32) (q2 : Int64) (p3 : Int32) (q4 : Int64) (p5 : Int32) (h0 : Heap) (n0 : Nat) (Z0 : n0 ≤ h0.size) :
    MetFree l x (head1 (Jvm.Cond.code x code maxLocals ret :: ws) room_1) (fun av U => av = #[(.int p1), (.long q2), (.int p3), (.long q4), (.int p5)] ∧ Z.Warmed39 U.vm ∧ U.heap = h0) (fun _ _ _ _ _ => True) (fun _ U o U' => ∃ v L, o = .returned v ∧ Q_rm0 Z p1 q2 p3 q4 p5 h0 n0 v U'.heap L ∧ FrameEnd U o U' L room_1.cells room_1.slots) := by
  refine MetFree.of_bodySF (plainFor_of_name pn_0) hisR ?_
  intro p e s m args below meth c s₁ Bd hml0 hP hK
  obtain ⟨rfl, hZ, hh⟩ := hP
  have hx := Bd.exec
  have hby := Bd.bytes
  have hml : c.maxLocals = 34 := hml0
  have hown : s.vm.findClass "com/example/saffron/saffron/Bm25fLengthNormPinLaw" = some m.cls := findClass_of_methodNamed Bd.named
  have hnm := (name_of_methodNamed Bd.named Bd.method).1
  have X0 : Stand p l e room_1 s m #[(.int p1), (.long q2), (.int p3), (.long q4), (.int p5)] below meth c s₁ [] 0 0 := Stand.of_body Bd
  have e0 : s₁.heap = h0 := by rw [← hh, Bd.state]; rfl
  have N0 := Fr.nil n0
  have pre0 : ∀ t, Steps p.tables e below (s₁.setTop (mkF m 0 #[.val (.int p1), .val (.long q2), .second, .val (.int p3), .val (.long q4), .second, .val (.int p5), .unset, .unset, .unset, .unset, .unset, .unset, .unset, .unset, .unset, .unset, .unset, .unset, .unset, .unset, .unset, .unset, .unset, .unset, .unset, .unset, .unset, .unset, .unset, .unset, .unset, .unset, .unset] [])) t → Steps p.tables e below (s₁.setTop (entryFrame m #[(.int p1), (.long q2), (.int p3), (.long q4), (.int p5)] maxLocals)) t := fun t k => castTop (ef_rm0 m p1 q2 p3 q4 p5) k
  have hk := own_k_rng p1
  obtain ⟨E, hE, ea⟩ := own_a_val p3
  obtain ⟨j, hj, ej⟩ := own_j_val p5
  have hmm := own_mm (own_p q2) (own_p q4) (own_p_rng q2) (own_p_rng q4)
  have hc1 := LN.chain hk (n := (own_n q2)) (own_n_rng q2).1 (own_da hE ea) (Nat.two_pow_pos E)
  have hex := own_ex hk (own_n_rng q2) hE ea
  have hc2 := LN.chain hk (n := (own_min (own_p q2) (own_p q4))) hmm.1 (own_dj ej) hj
  have hc3 := LN.chain hk (n := (own_max (own_p q2) (own_p q4))) (Int.le_trans hmm.1 hmm.2) (own_dj ej) hj
  have sg1 : ∀ target, Steps p.tables e below (s₁.setTop (mkF m 43 #[.val (.int p1), .val (.long q2), .second, .val (.int p3), .val (.long q4), .second, .val (.int p5), .val (.int (own_k p1)), .val (.float (LN.B (own_k p1))), .val (.int (p3 &&& (7 : Int32))), .val (.long (own_a p3)), .second, .val (.long (own_n q2)), .second, .unset, .unset, .unset, .unset, .unset, .unset, .unset, .unset, .unset, .unset, .unset, .unset, .unset, .unset, .unset, .unset, .unset, .unset, .unset, .unset] [(.double (FP.l2d (own_a p3))), (.long (own_n q2)), (.float (LN.B (own_k p1)))])) target → Steps p.tables e below (s₁.setTop (mkF m 0 #[.val (.int p1), .val (.long q2), .second, .val (.int p3), .val (.long q4), .second, .val (.int p5), .unset, .unset, .unset, .unset, .unset, .unset, .unset, .unset, .unset, .unset, .unset, .unset, .unset, .unset, .unset, .unset, .unset, .unset, .unset, .unset, .unset, .unset, .unset, .unset, .unset, .unset, .unset] [])) target := by
    intro target kt
    show Steps p.tables e below (s₁.setTop (mkF m 0 #[.val (.int p1), .val (.long q2), .second, .val (.int p3), .val (.long q4), .second, .val (.int p5), .unset, .unset, .unset, .unset, .unset, .unset, .unset, .unset, .unset, .unset, .unset, .unset, .unset, .unset, .unset, .unset, .unset, .unset, .unset, .unset, .unset, .unset, .unset, .unset, .unset, .unset, .unset] [])) _
    refine XS.iloadN X0.here hx rfl (hb hby at_0) rfl ?_
    show Steps p.tables e below (s₁.setTop (mkF m 1 #[.val (.int p1), .val (.long q2), .second, .val (.int p3), .val (.long q4), .second, .val (.int p5), .unset, .unset, .unset, .unset, .unset, .unset, .unset, .unset, .unset, .unset, .unset, .unset, .unset, .unset, .unset, .unset, .unset, .unset, .unset, .unset, .unset, .unset, .unset, .unset, .unset, .unset, .unset] [(.int p1)])) _
    refine X0.ldcInt hx hown (mvT hZ (hw _ (List.mem_of_getElem? (i := 0) rfl))) (g := (mkF m 1 #[.val (.int p1), .val (.long q2), .second, .val (.int p3), .val (.long q4), .second, .val (.int p5), .unset, .unset, .unset, .unset, .unset, .unset, .unset, .unset, .unset, .unset, .unset, .unset, .unset, .unset, .unset, .unset, .unset, .unset, .unset, .unset, .unset, .unset, .unset, .unset, .unset, .unset, .unset] [(.int p1)])) rfl (hb hby at_1) _ ?_
    show Steps p.tables e below (s₁.setTop (mkF m 3 #[.val (.int p1), .val (.long q2), .second, .val (.int p3), .val (.long q4), .second, .val (.int p5), .unset, .unset, .unset, .unset, .unset, .unset, .unset, .unset, .unset, .unset, .unset, .unset, .unset, .unset, .unset, .unset, .unset, .unset, .unset, .unset, .unset, .unset, .unset, .unset, .unset, .unset, .unset] [(.int (2147483647 : Int32)), (.int p1)])) _
    refine XS.iand X0.here hx rfl (hb hby at_3) rfl ?_
    show Steps p.tables e below (s₁.setTop (mkF m 4 #[.val (.int p1), .val (.long q2), .second, .val (.int p3), .val (.long q4), .second, .val (.int p5), .unset, .unset, .unset, .unset, .unset, .unset, .unset, .unset, .unset, .unset, .unset, .unset, .unset, .unset, .unset, .unset, .unset, .unset, .unset, .unset, .unset, .unset, .unset, .unset, .unset, .unset, .unset] [(.int (p1 &&& (2147483647 : Int32)))])) _
    refine XS.bipush X0.here hx rfl (hb hby at_4) ?_
    show Steps p.tables e below (s₁.setTop (mkF m 6 #[.val (.int p1), .val (.long q2), .second, .val (.int p3), .val (.long q4), .second, .val (.int p5), .unset, .unset, .unset, .unset, .unset, .unset, .unset, .unset, .unset, .unset, .unset, .unset, .unset, .unset, .unset, .unset, .unset, .unset, .unset, .unset, .unset, .unset, .unset, .unset, .unset, .unset, .unset] [(.int (17 : Int32)), (.int (p1 &&& (2147483647 : Int32)))])) _
    refine iremM X0 hx rfl (hb hby at_6) rfl (by decide) ?_
    show Steps p.tables e below (s₁.setTop (mkF m 7 #[.val (.int p1), .val (.long q2), .second, .val (.int p3), .val (.long q4), .second, .val (.int p5), .unset, .unset, .unset, .unset, .unset, .unset, .unset, .unset, .unset, .unset, .unset, .unset, .unset, .unset, .unset, .unset, .unset, .unset, .unset, .unset, .unset, .unset, .unset, .unset, .unset, .unset, .unset] [(.int (own_k p1))])) _
    refine XS.istore X0.here hx rfl (hb hby at_7) rfl (l' := #[.val (.int p1), .val (.long q2), .second, .val (.int p3), .val (.long q4), .second, .val (.int p5), .val (.int (own_k p1)), .unset, .unset, .unset, .unset, .unset, .unset, .unset, .unset, .unset, .unset, .unset, .unset, .unset, .unset, .unset, .unset, .unset, .unset, .unset, .unset, .unset, .unset, .unset, .unset, .unset, .unset]) rfl ?_
    show Steps p.tables e below (s₁.setTop (mkF m 9 #[.val (.int p1), .val (.long q2), .second, .val (.int p3), .val (.long q4), .second, .val (.int p5), .val (.int (own_k p1)), .unset, .unset, .unset, .unset, .unset, .unset, .unset, .unset, .unset, .unset, .unset, .unset, .unset, .unset, .unset, .unset, .unset, .unset, .unset, .unset, .unset, .unset, .unset, .unset, .unset, .unset] [])) _
    refine XS.iload X0.here hx rfl (hb hby at_9) rfl ?_
    show Steps p.tables e below (s₁.setTop (mkF m 11 #[.val (.int p1), .val (.long q2), .second, .val (.int p3), .val (.long q4), .second, .val (.int p5), .val (.int (own_k p1)), .unset, .unset, .unset, .unset, .unset, .unset, .unset, .unset, .unset, .unset, .unset, .unset, .unset, .unset, .unset, .unset, .unset, .unset, .unset, .unset, .unset, .unset, .unset, .unset, .unset, .unset] [(.int (own_k p1))])) _
    refine XS.i2fS X0.here hx rfl (v := (FP.i2f (own_k p1))) (hb hby at_11) rfl rfl ?_
    show Steps p.tables e below (s₁.setTop (mkF m 12 #[.val (.int p1), .val (.long q2), .second, .val (.int p3), .val (.long q4), .second, .val (.int p5), .val (.int (own_k p1)), .unset, .unset, .unset, .unset, .unset, .unset, .unset, .unset, .unset, .unset, .unset, .unset, .unset, .unset, .unset, .unset, .unset, .unset, .unset, .unset, .unset, .unset, .unset, .unset, .unset, .unset] [(.float (FP.i2f (own_k p1)))])) _
    refine X0.ldcFloatC hx hown (mvT hZ (hw _ (List.mem_of_getElem? (i := 1) rfl))) (g := (mkF m 12 #[.val (.int p1), .val (.long q2), .second, .val (.int p3), .val (.long q4), .second, .val (.int p5), .val (.int (own_k p1)), .unset, .unset, .unset, .unset, .unset, .unset, .unset, .unset, .unset, .unset, .unset, .unset, .unset, .unset, .unset, .unset, .unset, .unset, .unset, .unset, .unset, .unset, .unset, .unset, .unset, .unset] [(.float (FP.i2f (own_k p1)))])) rfl (hb hby at_12) _ ?_
    show Steps p.tables e below (s₁.setTop (mkF m 14 #[.val (.int p1), .val (.long q2), .second, .val (.int p3), .val (.long q4), .second, .val (.int p5), .val (.int (own_k p1)), .unset, .unset, .unset, .unset, .unset, .unset, .unset, .unset, .unset, .unset, .unset, .unset, .unset, .unset, .unset, .unset, .unset, .unset, .unset, .unset, .unset, .unset, .unset, .unset, .unset, .unset] [(.float (1098907648 : UInt32)), (.float (FP.i2f (own_k p1)))])) _
    refine XS.fdivS X0.here hx rfl (v := (LN.B (own_k p1))) (hb hby at_14) rfl (own_b_nn p1) rfl ?_
    show Steps p.tables e below (s₁.setTop (mkF m 15 #[.val (.int p1), .val (.long q2), .second, .val (.int p3), .val (.long q4), .second, .val (.int p5), .val (.int (own_k p1)), .unset, .unset, .unset, .unset, .unset, .unset, .unset, .unset, .unset, .unset, .unset, .unset, .unset, .unset, .unset, .unset, .unset, .unset, .unset, .unset, .unset, .unset, .unset, .unset, .unset, .unset] [(.float (LN.B (own_k p1)))])) _
    refine XS.fstore X0.here hx rfl (hb hby at_15) rfl (l' := #[.val (.int p1), .val (.long q2), .second, .val (.int p3), .val (.long q4), .second, .val (.int p5), .val (.int (own_k p1)), .val (.float (LN.B (own_k p1))), .unset, .unset, .unset, .unset, .unset, .unset, .unset, .unset, .unset, .unset, .unset, .unset, .unset, .unset, .unset, .unset, .unset, .unset, .unset, .unset, .unset, .unset, .unset, .unset, .unset]) rfl ?_
    show Steps p.tables e below (s₁.setTop (mkF m 17 #[.val (.int p1), .val (.long q2), .second, .val (.int p3), .val (.long q4), .second, .val (.int p5), .val (.int (own_k p1)), .val (.float (LN.B (own_k p1))), .unset, .unset, .unset, .unset, .unset, .unset, .unset, .unset, .unset, .unset, .unset, .unset, .unset, .unset, .unset, .unset, .unset, .unset, .unset, .unset, .unset, .unset, .unset, .unset, .unset] [])) _
    refine XS.iloadN X0.here hx rfl (hb hby at_17) rfl ?_
    show Steps p.tables e below (s₁.setTop (mkF m 18 #[.val (.int p1), .val (.long q2), .second, .val (.int p3), .val (.long q4), .second, .val (.int p5), .val (.int (own_k p1)), .val (.float (LN.B (own_k p1))), .unset, .unset, .unset, .unset, .unset, .unset, .unset, .unset, .unset, .unset, .unset, .unset, .unset, .unset, .unset, .unset, .unset, .unset, .unset, .unset, .unset, .unset, .unset, .unset, .unset] [(.int p3)])) _
    refine XS.bipush X0.here hx rfl (hb hby at_18) ?_
    show Steps p.tables e below (s₁.setTop (mkF m 20 #[.val (.int p1), .val (.long q2), .second, .val (.int p3), .val (.long q4), .second, .val (.int p5), .val (.int (own_k p1)), .val (.float (LN.B (own_k p1))), .unset, .unset, .unset, .unset, .unset, .unset, .unset, .unset, .unset, .unset, .unset, .unset, .unset, .unset, .unset, .unset, .unset, .unset, .unset, .unset, .unset, .unset, .unset, .unset, .unset] [(.int (7 : Int32)), (.int p3)])) _
    refine XS.iand X0.here hx rfl (hb hby at_20) rfl ?_
    show Steps p.tables e below (s₁.setTop (mkF m 21 #[.val (.int p1), .val (.long q2), .second, .val (.int p3), .val (.long q4), .second, .val (.int p5), .val (.int (own_k p1)), .val (.float (LN.B (own_k p1))), .unset, .unset, .unset, .unset, .unset, .unset, .unset, .unset, .unset, .unset, .unset, .unset, .unset, .unset, .unset, .unset, .unset, .unset, .unset, .unset, .unset, .unset, .unset, .unset, .unset] [(.int (p3 &&& (7 : Int32)))])) _
    refine XS.istore X0.here hx rfl (hb hby at_21) rfl (l' := #[.val (.int p1), .val (.long q2), .second, .val (.int p3), .val (.long q4), .second, .val (.int p5), .val (.int (own_k p1)), .val (.float (LN.B (own_k p1))), .val (.int (p3 &&& (7 : Int32))), .unset, .unset, .unset, .unset, .unset, .unset, .unset, .unset, .unset, .unset, .unset, .unset, .unset, .unset, .unset, .unset, .unset, .unset, .unset, .unset, .unset, .unset, .unset, .unset]) rfl ?_
    show Steps p.tables e below (s₁.setTop (mkF m 23 #[.val (.int p1), .val (.long q2), .second, .val (.int p3), .val (.long q4), .second, .val (.int p5), .val (.int (own_k p1)), .val (.float (LN.B (own_k p1))), .val (.int (p3 &&& (7 : Int32))), .unset, .unset, .unset, .unset, .unset, .unset, .unset, .unset, .unset, .unset, .unset, .unset, .unset, .unset, .unset, .unset, .unset, .unset, .unset, .unset, .unset, .unset, .unset, .unset] [])) _
    refine XS.lconst X0.here hx rfl (hb hby at_23) ?_
    show Steps p.tables e below (s₁.setTop (mkF m 24 #[.val (.int p1), .val (.long q2), .second, .val (.int p3), .val (.long q4), .second, .val (.int p5), .val (.int (own_k p1)), .val (.float (LN.B (own_k p1))), .val (.int (p3 &&& (7 : Int32))), .unset, .unset, .unset, .unset, .unset, .unset, .unset, .unset, .unset, .unset, .unset, .unset, .unset, .unset, .unset, .unset, .unset, .unset, .unset, .unset, .unset, .unset, .unset, .unset] [(.long (1 : Int64))])) _
    refine XS.iload X0.here hx rfl (hb hby at_24) rfl ?_
    show Steps p.tables e below (s₁.setTop (mkF m 26 #[.val (.int p1), .val (.long q2), .second, .val (.int p3), .val (.long q4), .second, .val (.int p5), .val (.int (own_k p1)), .val (.float (LN.B (own_k p1))), .val (.int (p3 &&& (7 : Int32))), .unset, .unset, .unset, .unset, .unset, .unset, .unset, .unset, .unset, .unset, .unset, .unset, .unset, .unset, .unset, .unset, .unset, .unset, .unset, .unset, .unset, .unset, .unset, .unset] [(.int (p3 &&& (7 : Int32))), (.long (1 : Int64))])) _
    refine XS.lshl X0.here hx rfl (hb hby at_26) rfl ?_
    show Steps p.tables e below (s₁.setTop (mkF m 27 #[.val (.int p1), .val (.long q2), .second, .val (.int p3), .val (.long q4), .second, .val (.int p5), .val (.int (own_k p1)), .val (.float (LN.B (own_k p1))), .val (.int (p3 &&& (7 : Int32))), .unset, .unset, .unset, .unset, .unset, .unset, .unset, .unset, .unset, .unset, .unset, .unset, .unset, .unset, .unset, .unset, .unset, .unset, .unset, .unset, .unset, .unset, .unset, .unset] [(.long (own_a p3))])) _
    refine XS.lstore X0.here hx rfl (hb hby at_27) rfl (l' := #[.val (.int p1), .val (.long q2), .second, .val (.int p3), .val (.long q4), .second, .val (.int p5), .val (.int (own_k p1)), .val (.float (LN.B (own_k p1))), .val (.int (p3 &&& (7 : Int32))), .val (.long (own_a p3)), .second, .unset, .unset, .unset, .unset, .unset, .unset, .unset, .unset, .unset, .unset, .unset, .unset, .unset, .unset, .unset, .unset, .unset, .unset, .unset, .unset, .unset, .unset]) rfl ?_
    show Steps p.tables e below (s₁.setTop (mkF m 29 #[.val (.int p1), .val (.long q2), .second, .val (.int p3), .val (.long q4), .second, .val (.int p5), .val (.int (own_k p1)), .val (.float (LN.B (own_k p1))), .val (.int (p3 &&& (7 : Int32))), .val (.long (own_a p3)), .second, .unset, .unset, .unset, .unset, .unset, .unset, .unset, .unset, .unset, .unset, .unset, .unset, .unset, .unset, .unset, .unset, .unset, .unset, .unset, .unset, .unset, .unset] [])) _
    refine XS.lloadN X0.here hx rfl (hb hby at_29) rfl ?_
    show Steps p.tables e below (s₁.setTop (mkF m 30 #[.val (.int p1), .val (.long q2), .second, .val (.int p3), .val (.long q4), .second, .val (.int p5), .val (.int (own_k p1)), .val (.float (LN.B (own_k p1))), .val (.int (p3 &&& (7 : Int32))), .val (.long (own_a p3)), .second, .unset, .unset, .unset, .unset, .unset, .unset, .unset, .unset, .unset, .unset, .unset, .unset, .unset, .unset, .unset, .unset, .unset, .unset, .unset, .unset, .unset, .unset] [(.long q2)])) _
    refine X0.ldc2Long hx hown (mvT hZ (hw _ (List.mem_of_getElem? (i := 2) rfl))) (g := (mkF m 30 #[.val (.int p1), .val (.long q2), .second, .val (.int p3), .val (.long q4), .second, .val (.int p5), .val (.int (own_k p1)), .val (.float (LN.B (own_k p1))), .val (.int (p3 &&& (7 : Int32))), .val (.long (own_a p3)), .second, .unset, .unset, .unset, .unset, .unset, .unset, .unset, .unset, .unset, .unset, .unset, .unset, .unset, .unset, .unset, .unset, .unset, .unset, .unset, .unset, .unset, .unset] [(.long q2)])) rfl (hb hby at_30) _ ?_
    show Steps p.tables e below (s₁.setTop (mkF m 33 #[.val (.int p1), .val (.long q2), .second, .val (.int p3), .val (.long q4), .second, .val (.int p5), .val (.int (own_k p1)), .val (.float (LN.B (own_k p1))), .val (.int (p3 &&& (7 : Int32))), .val (.long (own_a p3)), .second, .unset, .unset, .unset, .unset, .unset, .unset, .unset, .unset, .unset, .unset, .unset, .unset, .unset, .unset, .unset, .unset, .unset, .unset, .unset, .unset, .unset, .unset] [(.long (524287 : Int64)), (.long q2)])) _
    refine XS.land X0.here hx rfl (hb hby at_33) rfl ?_
    show Steps p.tables e below (s₁.setTop (mkF m 34 #[.val (.int p1), .val (.long q2), .second, .val (.int p3), .val (.long q4), .second, .val (.int p5), .val (.int (own_k p1)), .val (.float (LN.B (own_k p1))), .val (.int (p3 &&& (7 : Int32))), .val (.long (own_a p3)), .second, .unset, .unset, .unset, .unset, .unset, .unset, .unset, .unset, .unset, .unset, .unset, .unset, .unset, .unset, .unset, .unset, .unset, .unset, .unset, .unset, .unset, .unset] [(.long (own_n q2))])) _
    refine XS.lstore X0.here hx rfl (hb hby at_34) rfl (l' := #[.val (.int p1), .val (.long q2), .second, .val (.int p3), .val (.long q4), .second, .val (.int p5), .val (.int (own_k p1)), .val (.float (LN.B (own_k p1))), .val (.int (p3 &&& (7 : Int32))), .val (.long (own_a p3)), .second, .val (.long (own_n q2)), .second, .unset, .unset, .unset, .unset, .unset, .unset, .unset, .unset, .unset, .unset, .unset, .unset, .unset, .unset, .unset, .unset, .unset, .unset, .unset, .unset]) rfl ?_
    show Steps p.tables e below (s₁.setTop (mkF m 36 #[.val (.int p1), .val (.long q2), .second, .val (.int p3), .val (.long q4), .second, .val (.int p5), .val (.int (own_k p1)), .val (.float (LN.B (own_k p1))), .val (.int (p3 &&& (7 : Int32))), .val (.long (own_a p3)), .second, .val (.long (own_n q2)), .second, .unset, .unset, .unset, .unset, .unset, .unset, .unset, .unset, .unset, .unset, .unset, .unset, .unset, .unset, .unset, .unset, .unset, .unset, .unset, .unset] [])) _
    refine XS.fload X0.here hx rfl (hb hby at_36) rfl ?_
    show Steps p.tables e below (s₁.setTop (mkF m 38 #[.val (.int p1), .val (.long q2), .second, .val (.int p3), .val (.long q4), .second, .val (.int p5), .val (.int (own_k p1)), .val (.float (LN.B (own_k p1))), .val (.int (p3 &&& (7 : Int32))), .val (.long (own_a p3)), .second, .val (.long (own_n q2)), .second, .unset, .unset, .unset, .unset, .unset, .unset, .unset, .unset, .unset, .unset, .unset, .unset, .unset, .unset, .unset, .unset, .unset, .unset, .unset, .unset] [(.float (LN.B (own_k p1)))])) _
    refine XS.lload X0.here hx rfl (hb hby at_38) rfl ?_
    show Steps p.tables e below (s₁.setTop (mkF m 40 #[.val (.int p1), .val (.long q2), .second, .val (.int p3), .val (.long q4), .second, .val (.int p5), .val (.int (own_k p1)), .val (.float (LN.B (own_k p1))), .val (.int (p3 &&& (7 : Int32))), .val (.long (own_a p3)), .second, .val (.long (own_n q2)), .second, .unset, .unset, .unset, .unset, .unset, .unset, .unset, .unset, .unset, .unset, .unset, .unset, .unset, .unset, .unset, .unset, .unset, .unset, .unset, .unset] [(.long (own_n q2)), (.float (LN.B (own_k p1)))])) _
    refine XS.lload X0.here hx rfl (hb hby at_40) rfl ?_
    show Steps p.tables e below (s₁.setTop (mkF m 42 #[.val (.int p1), .val (.long q2), .second, .val (.int p3), .val (.long q4), .second, .val (.int p5), .val (.int (own_k p1)), .val (.float (LN.B (own_k p1))), .val (.int (p3 &&& (7 : Int32))), .val (.long (own_a p3)), .second, .val (.long (own_n q2)), .second, .unset, .unset, .unset, .unset, .unset, .unset, .unset, .unset, .unset, .unset, .unset, .unset, .unset, .unset, .unset, .unset, .unset, .unset, .unset, .unset] [(.long (own_a p3)), (.long (own_n q2)), (.float (LN.B (own_k p1)))])) _
    refine XS.l2dS X0.here hx rfl (v := (FP.l2d (own_a p3))) (hb hby at_42) rfl rfl ?_
    exact kt
  obtain ⟨_, _, ⟨T2, L2, k2, n2⟩, -, X2, ⟨Lc2, hQ2, l2, y2, z2⟩, st2⟩ := Jvm.LawKit.callS X0 hx (y := (⟨"com/example/saffron/saffron/Bm25f", "lengthNorm", "(FJD)D"⟩ : MethodName)) hown (mvT hZ (hw _ (List.mem_of_getElem? (i := 3) rfl))) (mvT hZ (hw _ (List.mem_of_getElem? (i := 4) rfl))) (mvT hZ (hw _ (List.mem_of_getElem? (i := 5) rfl))) (mvT hZ (hw _ (List.mem_of_getElem? (i := 6) rfl))) (by decide) (backOf (W := 0) (rm1 l Z a0 hw [] (LN.B (own_k p1)) (own_n q2) (FP.l2d (own_a p3)) h0 n0 Z0 hc1.1 hc1.2.1 hc1.2.2.1 hc1.2.2.2.1 hc1.2.2.2.2.1 hc1.2.2.2.2.2) hZ (hw _ (List.mem_of_getElem? (i := 6) rfl)) (hw _ (List.mem_of_getElem? (i := 5) rfl)) (by decide) (by decide)) (g := (mkF m 43 #[.val (.int p1), .val (.long q2), .second, .val (.int p3), .val (.long q4), .second, .val (.int p5), .val (.int (own_k p1)), .val (.float (LN.B (own_k p1))), .val (.int (p3 &&& (7 : Int32))), .val (.long (own_a p3)), .second, .val (.long (own_n q2)), .second, .unset, .unset, .unset, .unset, .unset, .unset, .unset, .unset, .unset, .unset, .unset, .unset, .unset, .unset, .unset, .unset, .unset, .unset, .unset, .unset] [(.double (FP.l2d (own_a p3))), (.long (own_n q2)), (.float (LN.B (own_k p1)))])) rfl (by rw [hml]; rfl) (argsL := [(.float (LN.B (own_k p1))), (.long (own_n q2)), (.double (FP.l2d (own_a p3)))]) (rest := []) (lenOf pd_1 rfl) rfl (by show 2 * 0 + _ ≤ _; exact Nat.le_of_eq rfl) (hb hby at_43) (fun _ _ => ⟨rfl, e0, (by decide : 0 + 0 ≤ _), (by decide : 0 + 0 ≤ _)⟩)
  dsimp only [Pt.U, Pt.locs, Pt.cells, Pt.slots] at X2 l2 y2 z2 st2 hQ2
  subst l2 y2 z2
  obtain ⟨rfl, N2q, c2_0⟩ := hQ2
  have N2 := Fr.app N0 N2q
  have sg3 : ∀ target, Steps p.tables e below (T2.setTop (mkF m 121 #[.val (.int p1), .val (.long q2), .second, .val (.int p3), .val (.long q4), .second, .val (.int p5), .val (.int (own_k p1)), .val (.float (LN.B (own_k p1))), .val (.int (p3 &&& (7 : Int32))), .val (.long (own_a p3)), .second, .val (.long (own_n q2)), .second, .val (.double (LN.ln (LN.B (own_k p1)) (own_n q2) (FP.l2d (own_a p3)))), .second, .val (.long (own_N (own_k p1) (own_a p3) (own_n q2))), .second, .val (.int (1 : Int32)), .val (.double (FP.i2d (own_j p5))), .second, .val (.long (own_p q2)), .second, .val (.long (own_p q4)), .second, .unset, .unset, .unset, .unset, .unset, .unset, .unset, .unset, .unset] [(.long (own_p q4)), (.long (own_p q2))])) target → Steps p.tables e below (T2.setTop (mkF m 46 #[.val (.int p1), .val (.long q2), .second, .val (.int p3), .val (.long q4), .second, .val (.int p5), .val (.int (own_k p1)), .val (.float (LN.B (own_k p1))), .val (.int (p3 &&& (7 : Int32))), .val (.long (own_a p3)), .second, .val (.long (own_n q2)), .second, .unset, .unset, .unset, .unset, .unset, .unset, .unset, .unset, .unset, .unset, .unset, .unset, .unset, .unset, .unset, .unset, .unset, .unset, .unset, .unset] [(.double (LN.ln (LN.B (own_k p1)) (own_n q2) (FP.l2d (own_a p3))))])) target := by
    intro target kt
    show Steps p.tables e below (T2.setTop (mkF m 46 #[.val (.int p1), .val (.long q2), .second, .val (.int p3), .val (.long q4), .second, .val (.int p5), .val (.int (own_k p1)), .val (.float (LN.B (own_k p1))), .val (.int (p3 &&& (7 : Int32))), .val (.long (own_a p3)), .second, .val (.long (own_n q2)), .second, .unset, .unset, .unset, .unset, .unset, .unset, .unset, .unset, .unset, .unset, .unset, .unset, .unset, .unset, .unset, .unset, .unset, .unset, .unset, .unset] [(.double (LN.ln (LN.B (own_k p1)) (own_n q2) (FP.l2d (own_a p3))))])) _
    refine XS.dstore X2.here hx rfl (hb hby at_46) rfl (l' := #[.val (.int p1), .val (.long q2), .second, .val (.int p3), .val (.long q4), .second, .val (.int p5), .val (.int (own_k p1)), .val (.float (LN.B (own_k p1))), .val (.int (p3 &&& (7 : Int32))), .val (.long (own_a p3)), .second, .val (.long (own_n q2)), .second, .val (.double (LN.ln (LN.B (own_k p1)) (own_n q2) (FP.l2d (own_a p3)))), .second, .unset, .unset, .unset, .unset, .unset, .unset, .unset, .unset, .unset, .unset, .unset, .unset, .unset, .unset, .unset, .unset, .unset, .unset]) rfl ?_
    show Steps p.tables e below (T2.setTop (mkF m 48 #[.val (.int p1), .val (.long q2), .second, .val (.int p3), .val (.long q4), .second, .val (.int p5), .val (.int (own_k p1)), .val (.float (LN.B (own_k p1))), .val (.int (p3 &&& (7 : Int32))), .val (.long (own_a p3)), .second, .val (.long (own_n q2)), .second, .val (.double (LN.ln (LN.B (own_k p1)) (own_n q2) (FP.l2d (own_a p3)))), .second, .unset, .unset, .unset, .unset, .unset, .unset, .unset, .unset, .unset, .unset, .unset, .unset, .unset, .unset, .unset, .unset, .unset, .unset] [])) _
    refine X2.ldc2Long hx hown (mvT hZ (hw _ (List.mem_of_getElem? (i := 7) rfl))) (g := (mkF m 48 #[.val (.int p1), .val (.long q2), .second, .val (.int p3), .val (.long q4), .second, .val (.int p5), .val (.int (own_k p1)), .val (.float (LN.B (own_k p1))), .val (.int (p3 &&& (7 : Int32))), .val (.long (own_a p3)), .second, .val (.long (own_n q2)), .second, .val (.double (LN.ln (LN.B (own_k p1)) (own_n q2) (FP.l2d (own_a p3)))), .second, .unset, .unset, .unset, .unset, .unset, .unset, .unset, .unset, .unset, .unset, .unset, .unset, .unset, .unset, .unset, .unset, .unset, .unset] [])) rfl (hb hby at_48) _ ?_
    show Steps p.tables e below (T2.setTop (mkF m 51 #[.val (.int p1), .val (.long q2), .second, .val (.int p3), .val (.long q4), .second, .val (.int p5), .val (.int (own_k p1)), .val (.float (LN.B (own_k p1))), .val (.int (p3 &&& (7 : Int32))), .val (.long (own_a p3)), .second, .val (.long (own_n q2)), .second, .val (.double (LN.ln (LN.B (own_k p1)) (own_n q2) (FP.l2d (own_a p3)))), .second, .unset, .unset, .unset, .unset, .unset, .unset, .unset, .unset, .unset, .unset, .unset, .unset, .unset, .unset, .unset, .unset, .unset, .unset] [(.long (16 : Int64))])) _
    refine XS.iload X2.here hx rfl (hb hby at_51) rfl ?_
    show Steps p.tables e below (T2.setTop (mkF m 53 #[.val (.int p1), .val (.long q2), .second, .val (.int p3), .val (.long q4), .second, .val (.int p5), .val (.int (own_k p1)), .val (.float (LN.B (own_k p1))), .val (.int (p3 &&& (7 : Int32))), .val (.long (own_a p3)), .second, .val (.long (own_n q2)), .second, .val (.double (LN.ln (LN.B (own_k p1)) (own_n q2) (FP.l2d (own_a p3)))), .second, .unset, .unset, .unset, .unset, .unset, .unset, .unset, .unset, .unset, .unset, .unset, .unset, .unset, .unset, .unset, .unset, .unset, .unset] [(.int (own_k p1)), (.long (16 : Int64))])) _
    refine XS.i2l X2.here hx rfl (hb hby at_53) rfl ?_
    show Steps p.tables e below (T2.setTop (mkF m 54 #[.val (.int p1), .val (.long q2), .second, .val (.int p3), .val (.long q4), .second, .val (.int p5), .val (.int (own_k p1)), .val (.float (LN.B (own_k p1))), .val (.int (p3 &&& (7 : Int32))), .val (.long (own_a p3)), .second, .val (.long (own_n q2)), .second, .val (.double (LN.ln (LN.B (own_k p1)) (own_n q2) (FP.l2d (own_a p3)))), .second, .unset, .unset, .unset, .unset, .unset, .unset, .unset, .unset, .unset, .unset, .unset, .unset, .unset, .unset, .unset, .unset, .unset, .unset] [(.long ((own_k p1)).toInt64), (.long (16 : Int64))])) _
    refine XS.lsub X2.here hx rfl (hb hby at_54) rfl ?_
    show Steps p.tables e below (T2.setTop (mkF m 55 #[.val (.int p1), .val (.long q2), .second, .val (.int p3), .val (.long q4), .second, .val (.int p5), .val (.int (own_k p1)), .val (.float (LN.B (own_k p1))), .val (.int (p3 &&& (7 : Int32))), .val (.long (own_a p3)), .second, .val (.long (own_n q2)), .second, .val (.double (LN.ln (LN.B (own_k p1)) (own_n q2) (FP.l2d (own_a p3)))), .second, .unset, .unset, .unset, .unset, .unset, .unset, .unset, .unset, .unset, .unset, .unset, .unset, .unset, .unset, .unset, .unset, .unset, .unset] [(.long ((16 : Int64) - ((own_k p1)).toInt64))])) _
    refine XS.lload X2.here hx rfl (hb hby at_55) rfl ?_
    show Steps p.tables e below (T2.setTop (mkF m 57 #[.val (.int p1), .val (.long q2), .second, .val (.int p3), .val (.long q4), .second, .val (.int p5), .val (.int (own_k p1)), .val (.float (LN.B (own_k p1))), .val (.int (p3 &&& (7 : Int32))), .val (.long (own_a p3)), .second, .val (.long (own_n q2)), .second, .val (.double (LN.ln (LN.B (own_k p1)) (own_n q2) (FP.l2d (own_a p3)))), .second, .unset, .unset, .unset, .unset, .unset, .unset, .unset, .unset, .unset, .unset, .unset, .unset, .unset, .unset, .unset, .unset, .unset, .unset] [(.long (own_a p3)), (.long ((16 : Int64) - ((own_k p1)).toInt64))])) _
    refine XS.lmul X2.here hx rfl (hb hby at_57) rfl ?_
    show Steps p.tables e below (T2.setTop (mkF m 58 #[.val (.int p1), .val (.long q2), .second, .val (.int p3), .val (.long q4), .second, .val (.int p5), .val (.int (own_k p1)), .val (.float (LN.B (own_k p1))), .val (.int (p3 &&& (7 : Int32))), .val (.long (own_a p3)), .second, .val (.long (own_n q2)), .second, .val (.double (LN.ln (LN.B (own_k p1)) (own_n q2) (FP.l2d (own_a p3)))), .second, .unset, .unset, .unset, .unset, .unset, .unset, .unset, .unset, .unset, .unset, .unset, .unset, .unset, .unset, .unset, .unset, .unset, .unset] [(.long (((16 : Int64) - ((own_k p1)).toInt64) * (own_a p3)))])) _
    refine XS.iload X2.here hx rfl (hb hby at_58) rfl ?_
    show Steps p.tables e below (T2.setTop (mkF m 60 #[.val (.int p1), .val (.long q2), .second, .val (.int p3), .val (.long q4), .second, .val (.int p5), .val (.int (own_k p1)), .val (.float (LN.B (own_k p1))), .val (.int (p3 &&& (7 : Int32))), .val (.long (own_a p3)), .second, .val (.long (own_n q2)), .second, .val (.double (LN.ln (LN.B (own_k p1)) (own_n q2) (FP.l2d (own_a p3)))), .second, .unset, .unset, .unset, .unset, .unset, .unset, .unset, .unset, .unset, .unset, .unset, .unset, .unset, .unset, .unset, .unset, .unset, .unset] [(.int (own_k p1)), (.long (((16 : Int64) - ((own_k p1)).toInt64) * (own_a p3)))])) _
    refine XS.i2l X2.here hx rfl (hb hby at_60) rfl ?_
    show Steps p.tables e below (T2.setTop (mkF m 61 #[.val (.int p1), .val (.long q2), .second, .val (.int p3), .val (.long q4), .second, .val (.int p5), .val (.int (own_k p1)), .val (.float (LN.B (own_k p1))), .val (.int (p3 &&& (7 : Int32))), .val (.long (own_a p3)), .second, .val (.long (own_n q2)), .second, .val (.double (LN.ln (LN.B (own_k p1)) (own_n q2) (FP.l2d (own_a p3)))), .second, .unset, .unset, .unset, .unset, .unset, .unset, .unset, .unset, .unset, .unset, .unset, .unset, .unset, .unset, .unset, .unset, .unset, .unset] [(.long ((own_k p1)).toInt64), (.long (((16 : Int64) - ((own_k p1)).toInt64) * (own_a p3)))])) _
    refine XS.lload X2.here hx rfl (hb hby at_61) rfl ?_
    show Steps p.tables e below (T2.setTop (mkF m 63 #[.val (.int p1), .val (.long q2), .second, .val (.int p3), .val (.long q4), .second, .val (.int p5), .val (.int (own_k p1)), .val (.float (LN.B (own_k p1))), .val (.int (p3 &&& (7 : Int32))), .val (.long (own_a p3)), .second, .val (.long (own_n q2)), .second, .val (.double (LN.ln (LN.B (own_k p1)) (own_n q2) (FP.l2d (own_a p3)))), .second, .unset, .unset, .unset, .unset, .unset, .unset, .unset, .unset, .unset, .unset, .unset, .unset, .unset, .unset, .unset, .unset, .unset, .unset] [(.long (own_n q2)), (.long ((own_k p1)).toInt64), (.long (((16 : Int64) - ((own_k p1)).toInt64) * (own_a p3)))])) _
    refine XS.lmul X2.here hx rfl (hb hby at_63) rfl ?_
    show Steps p.tables e below (T2.setTop (mkF m 64 #[.val (.int p1), .val (.long q2), .second, .val (.int p3), .val (.long q4), .second, .val (.int p5), .val (.int (own_k p1)), .val (.float (LN.B (own_k p1))), .val (.int (p3 &&& (7 : Int32))), .val (.long (own_a p3)), .second, .val (.long (own_n q2)), .second, .val (.double (LN.ln (LN.B (own_k p1)) (own_n q2) (FP.l2d (own_a p3)))), .second, .unset, .unset, .unset, .unset, .unset, .unset, .unset, .unset, .unset, .unset, .unset, .unset, .unset, .unset, .unset, .unset, .unset, .unset] [(.long (((own_k p1)).toInt64 * (own_n q2))), (.long (((16 : Int64) - ((own_k p1)).toInt64) * (own_a p3)))])) _
    refine XS.ladd X2.here hx rfl (hb hby at_64) rfl ?_
    show Steps p.tables e below (T2.setTop (mkF m 65 #[.val (.int p1), .val (.long q2), .second, .val (.int p3), .val (.long q4), .second, .val (.int p5), .val (.int (own_k p1)), .val (.float (LN.B (own_k p1))), .val (.int (p3 &&& (7 : Int32))), .val (.long (own_a p3)), .second, .val (.long (own_n q2)), .second, .val (.double (LN.ln (LN.B (own_k p1)) (own_n q2) (FP.l2d (own_a p3)))), .second, .unset, .unset, .unset, .unset, .unset, .unset, .unset, .unset, .unset, .unset, .unset, .unset, .unset, .unset, .unset, .unset, .unset, .unset] [(.long (own_N (own_k p1) (own_a p3) (own_n q2)))])) _
    refine XS.lstore X2.here hx rfl (hb hby at_65) rfl (l' := #[.val (.int p1), .val (.long q2), .second, .val (.int p3), .val (.long q4), .second, .val (.int p5), .val (.int (own_k p1)), .val (.float (LN.B (own_k p1))), .val (.int (p3 &&& (7 : Int32))), .val (.long (own_a p3)), .second, .val (.long (own_n q2)), .second, .val (.double (LN.ln (LN.B (own_k p1)) (own_n q2) (FP.l2d (own_a p3)))), .second, .val (.long (own_N (own_k p1) (own_a p3) (own_n q2))), .second, .unset, .unset, .unset, .unset, .unset, .unset, .unset, .unset, .unset, .unset, .unset, .unset, .unset, .unset, .unset, .unset]) rfl ?_
    show Steps p.tables e below (T2.setTop (mkF m 67 #[.val (.int p1), .val (.long q2), .second, .val (.int p3), .val (.long q4), .second, .val (.int p5), .val (.int (own_k p1)), .val (.float (LN.B (own_k p1))), .val (.int (p3 &&& (7 : Int32))), .val (.long (own_a p3)), .second, .val (.long (own_n q2)), .second, .val (.double (LN.ln (LN.B (own_k p1)) (own_n q2) (FP.l2d (own_a p3)))), .second, .val (.long (own_N (own_k p1) (own_a p3) (own_n q2))), .second, .unset, .unset, .unset, .unset, .unset, .unset, .unset, .unset, .unset, .unset, .unset, .unset, .unset, .unset, .unset, .unset] [])) _
    refine XS.dload X2.here hx rfl (hb hby at_67) rfl ?_
    show Steps p.tables e below (T2.setTop (mkF m 69 #[.val (.int p1), .val (.long q2), .second, .val (.int p3), .val (.long q4), .second, .val (.int p5), .val (.int (own_k p1)), .val (.float (LN.B (own_k p1))), .val (.int (p3 &&& (7 : Int32))), .val (.long (own_a p3)), .second, .val (.long (own_n q2)), .second, .val (.double (LN.ln (LN.B (own_k p1)) (own_n q2) (FP.l2d (own_a p3)))), .second, .val (.long (own_N (own_k p1) (own_a p3) (own_n q2))), .second, .unset, .unset, .unset, .unset, .unset, .unset, .unset, .unset, .unset, .unset, .unset, .unset, .unset, .unset, .unset, .unset] [(.double (LN.ln (LN.B (own_k p1)) (own_n q2) (FP.l2d (own_a p3))))])) _
    refine X2.ldc2Long hx hown (mvT hZ (hw _ (List.mem_of_getElem? (i := 7) rfl))) (g := (mkF m 69 #[.val (.int p1), .val (.long q2), .second, .val (.int p3), .val (.long q4), .second, .val (.int p5), .val (.int (own_k p1)), .val (.float (LN.B (own_k p1))), .val (.int (p3 &&& (7 : Int32))), .val (.long (own_a p3)), .second, .val (.long (own_n q2)), .second, .val (.double (LN.ln (LN.B (own_k p1)) (own_n q2) (FP.l2d (own_a p3)))), .second, .val (.long (own_N (own_k p1) (own_a p3) (own_n q2))), .second, .unset, .unset, .unset, .unset, .unset, .unset, .unset, .unset, .unset, .unset, .unset, .unset, .unset, .unset, .unset, .unset] [(.double (LN.ln (LN.B (own_k p1)) (own_n q2) (FP.l2d (own_a p3))))])) rfl (hb hby at_69) _ ?_
    show Steps p.tables e below (T2.setTop (mkF m 72 #[.val (.int p1), .val (.long q2), .second, .val (.int p3), .val (.long q4), .second, .val (.int p5), .val (.int (own_k p1)), .val (.float (LN.B (own_k p1))), .val (.int (p3 &&& (7 : Int32))), .val (.long (own_a p3)), .second, .val (.long (own_n q2)), .second, .val (.double (LN.ln (LN.B (own_k p1)) (own_n q2) (FP.l2d (own_a p3)))), .second, .val (.long (own_N (own_k p1) (own_a p3) (own_n q2))), .second, .unset, .unset, .unset, .unset, .unset, .unset, .unset, .unset, .unset, .unset, .unset, .unset, .unset, .unset, .unset, .unset] [(.long (16 : Int64)), (.double (LN.ln (LN.B (own_k p1)) (own_n q2) (FP.l2d (own_a p3))))])) _
    refine XS.lload X2.here hx rfl (hb hby at_72) rfl ?_
    show Steps p.tables e below (T2.setTop (mkF m 74 #[.val (.int p1), .val (.long q2), .second, .val (.int p3), .val (.long q4), .second, .val (.int p5), .val (.int (own_k p1)), .val (.float (LN.B (own_k p1))), .val (.int (p3 &&& (7 : Int32))), .val (.long (own_a p3)), .second, .val (.long (own_n q2)), .second, .val (.double (LN.ln (LN.B (own_k p1)) (own_n q2) (FP.l2d (own_a p3)))), .second, .val (.long (own_N (own_k p1) (own_a p3) (own_n q2))), .second, .unset, .unset, .unset, .unset, .unset, .unset, .unset, .unset, .unset, .unset, .unset, .unset, .unset, .unset, .unset, .unset] [(.long (own_a p3)), (.long (16 : Int64)), (.double (LN.ln (LN.B (own_k p1)) (own_n q2) (FP.l2d (own_a p3))))])) _
    refine XS.lmul X2.here hx rfl (hb hby at_74) rfl ?_
    show Steps p.tables e below (T2.setTop (mkF m 75 #[.val (.int p1), .val (.long q2), .second, .val (.int p3), .val (.long q4), .second, .val (.int p5), .val (.int (own_k p1)), .val (.float (LN.B (own_k p1))), .val (.int (p3 &&& (7 : Int32))), .val (.long (own_a p3)), .second, .val (.long (own_n q2)), .second, .val (.double (LN.ln (LN.B (own_k p1)) (own_n q2) (FP.l2d (own_a p3)))), .second, .val (.long (own_N (own_k p1) (own_a p3) (own_n q2))), .second, .unset, .unset, .unset, .unset, .unset, .unset, .unset, .unset, .unset, .unset, .unset, .unset, .unset, .unset, .unset, .unset] [(.long ((16 : Int64) * (own_a p3))), (.double (LN.ln (LN.B (own_k p1)) (own_n q2) (FP.l2d (own_a p3))))])) _
    refine XS.l2dS X2.here hx rfl (v := (FP.l2d ((16 : Int64) * (own_a p3)))) (hb hby at_75) rfl rfl ?_
    show Steps p.tables e below (T2.setTop (mkF m 76 #[.val (.int p1), .val (.long q2), .second, .val (.int p3), .val (.long q4), .second, .val (.int p5), .val (.int (own_k p1)), .val (.float (LN.B (own_k p1))), .val (.int (p3 &&& (7 : Int32))), .val (.long (own_a p3)), .second, .val (.long (own_n q2)), .second, .val (.double (LN.ln (LN.B (own_k p1)) (own_n q2) (FP.l2d (own_a p3)))), .second, .val (.long (own_N (own_k p1) (own_a p3) (own_n q2))), .second, .unset, .unset, .unset, .unset, .unset, .unset, .unset, .unset, .unset, .unset, .unset, .unset, .unset, .unset, .unset, .unset] [(.double (FP.l2d ((16 : Int64) * (own_a p3)))), (.double (LN.ln (LN.B (own_k p1)) (own_n q2) (FP.l2d (own_a p3))))])) _
    refine XS.dmulS X2.here hx rfl (v := (FP.dmul (LN.ln (LN.B (own_k p1)) (own_n q2) (FP.l2d (own_a p3))) (FP.l2d ((16 : Int64) * (own_a p3))))) (hb hby at_76) rfl hex.1 rfl ?_
    show Steps p.tables e below (T2.setTop (mkF m 77 #[.val (.int p1), .val (.long q2), .second, .val (.int p3), .val (.long q4), .second, .val (.int p5), .val (.int (own_k p1)), .val (.float (LN.B (own_k p1))), .val (.int (p3 &&& (7 : Int32))), .val (.long (own_a p3)), .second, .val (.long (own_n q2)), .second, .val (.double (LN.ln (LN.B (own_k p1)) (own_n q2) (FP.l2d (own_a p3)))), .second, .val (.long (own_N (own_k p1) (own_a p3) (own_n q2))), .second, .unset, .unset, .unset, .unset, .unset, .unset, .unset, .unset, .unset, .unset, .unset, .unset, .unset, .unset, .unset, .unset] [(.double (FP.dmul (LN.ln (LN.B (own_k p1)) (own_n q2) (FP.l2d (own_a p3))) (FP.l2d ((16 : Int64) * (own_a p3)))))])) _
    refine XS.lload X2.here hx rfl (hb hby at_77) rfl ?_
    show Steps p.tables e below (T2.setTop (mkF m 79 #[.val (.int p1), .val (.long q2), .second, .val (.int p3), .val (.long q4), .second, .val (.int p5), .val (.int (own_k p1)), .val (.float (LN.B (own_k p1))), .val (.int (p3 &&& (7 : Int32))), .val (.long (own_a p3)), .second, .val (.long (own_n q2)), .second, .val (.double (LN.ln (LN.B (own_k p1)) (own_n q2) (FP.l2d (own_a p3)))), .second, .val (.long (own_N (own_k p1) (own_a p3) (own_n q2))), .second, .unset, .unset, .unset, .unset, .unset, .unset, .unset, .unset, .unset, .unset, .unset, .unset, .unset, .unset, .unset, .unset] [(.long (own_N (own_k p1) (own_a p3) (own_n q2))), (.double (FP.dmul (LN.ln (LN.B (own_k p1)) (own_n q2) (FP.l2d (own_a p3))) (FP.l2d ((16 : Int64) * (own_a p3)))))])) _
    refine XS.l2dS X2.here hx rfl (v := (FP.l2d (own_N (own_k p1) (own_a p3) (own_n q2)))) (hb hby at_79) rfl rfl ?_
    show Steps p.tables e below (T2.setTop (mkF m 80 #[.val (.int p1), .val (.long q2), .second, .val (.int p3), .val (.long q4), .second, .val (.int p5), .val (.int (own_k p1)), .val (.float (LN.B (own_k p1))), .val (.int (p3 &&& (7 : Int32))), .val (.long (own_a p3)), .second, .val (.long (own_n q2)), .second, .val (.double (LN.ln (LN.B (own_k p1)) (own_n q2) (FP.l2d (own_a p3)))), .second, .val (.long (own_N (own_k p1) (own_a p3) (own_n q2))), .second, .unset, .unset, .unset, .unset, .unset, .unset, .unset, .unset, .unset, .unset, .unset, .unset, .unset, .unset, .unset, .unset] [(.double (FP.l2d (own_N (own_k p1) (own_a p3) (own_n q2)))), (.double (FP.dmul (LN.ln (LN.B (own_k p1)) (own_n q2) (FP.l2d (own_a p3))) (FP.l2d ((16 : Int64) * (own_a p3)))))])) _
    refine XS.dcmpS X2.here hx rfl (v := (0 : Int32)) (hb hby at_80) rfl hex.2 ?_
    show Steps p.tables e below (T2.setTop (mkF m 81 #[.val (.int p1), .val (.long q2), .second, .val (.int p3), .val (.long q4), .second, .val (.int p5), .val (.int (own_k p1)), .val (.float (LN.B (own_k p1))), .val (.int (p3 &&& (7 : Int32))), .val (.long (own_a p3)), .second, .val (.long (own_n q2)), .second, .val (.double (LN.ln (LN.B (own_k p1)) (own_n q2) (FP.l2d (own_a p3)))), .second, .val (.long (own_N (own_k p1) (own_a p3) (own_n q2))), .second, .unset, .unset, .unset, .unset, .unset, .unset, .unset, .unset, .unset, .unset, .unset, .unset, .unset, .unset, .unset, .unset] [(.int (0 : Int32))])) _
    refine XS.ifNo X2.here hx rfl (hb hby at_81) rfl ((if0 _ _).trans (teq (by decide : (0 : Int32) = (0 : Int32))).2) ?_
    show Steps p.tables e below (T2.setTop (mkF m 84 #[.val (.int p1), .val (.long q2), .second, .val (.int p3), .val (.long q4), .second, .val (.int p5), .val (.int (own_k p1)), .val (.float (LN.B (own_k p1))), .val (.int (p3 &&& (7 : Int32))), .val (.long (own_a p3)), .second, .val (.long (own_n q2)), .second, .val (.double (LN.ln (LN.B (own_k p1)) (own_n q2) (FP.l2d (own_a p3)))), .second, .val (.long (own_N (own_k p1) (own_a p3) (own_n q2))), .second, .unset, .unset, .unset, .unset, .unset, .unset, .unset, .unset, .unset, .unset, .unset, .unset, .unset, .unset, .unset, .unset] [])) _
    refine XS.iconst X2.here hx rfl (hb hby at_84) ?_
    show Steps p.tables e below (T2.setTop (mkF m 85 #[.val (.int p1), .val (.long q2), .second, .val (.int p3), .val (.long q4), .second, .val (.int p5), .val (.int (own_k p1)), .val (.float (LN.B (own_k p1))), .val (.int (p3 &&& (7 : Int32))), .val (.long (own_a p3)), .second, .val (.long (own_n q2)), .second, .val (.double (LN.ln (LN.B (own_k p1)) (own_n q2) (FP.l2d (own_a p3)))), .second, .val (.long (own_N (own_k p1) (own_a p3) (own_n q2))), .second, .unset, .unset, .unset, .unset, .unset, .unset, .unset, .unset, .unset, .unset, .unset, .unset, .unset, .unset, .unset, .unset] [(.int (1 : Int32))])) _
    refine XS.goto X2.here hx rfl (pc0 := 85) (pc' := 89) rfl (hb hby at_85) (by decide) (by decide) ?_
    show Steps p.tables e below (T2.setTop (mkF m 89 #[.val (.int p1), .val (.long q2), .second, .val (.int p3), .val (.long q4), .second, .val (.int p5), .val (.int (own_k p1)), .val (.float (LN.B (own_k p1))), .val (.int (p3 &&& (7 : Int32))), .val (.long (own_a p3)), .second, .val (.long (own_n q2)), .second, .val (.double (LN.ln (LN.B (own_k p1)) (own_n q2) (FP.l2d (own_a p3)))), .second, .val (.long (own_N (own_k p1) (own_a p3) (own_n q2))), .second, .unset, .unset, .unset, .unset, .unset, .unset, .unset, .unset, .unset, .unset, .unset, .unset, .unset, .unset, .unset, .unset] [(.int (1 : Int32))])) _
    refine XS.istore X2.here hx rfl (hb hby at_89) rfl (l' := #[.val (.int p1), .val (.long q2), .second, .val (.int p3), .val (.long q4), .second, .val (.int p5), .val (.int (own_k p1)), .val (.float (LN.B (own_k p1))), .val (.int (p3 &&& (7 : Int32))), .val (.long (own_a p3)), .second, .val (.long (own_n q2)), .second, .val (.double (LN.ln (LN.B (own_k p1)) (own_n q2) (FP.l2d (own_a p3)))), .second, .val (.long (own_N (own_k p1) (own_a p3) (own_n q2))), .second, .val (.int (1 : Int32)), .unset, .unset, .unset, .unset, .unset, .unset, .unset, .unset, .unset, .unset, .unset, .unset, .unset, .unset, .unset]) rfl ?_
    show Steps p.tables e below (T2.setTop (mkF m 91 #[.val (.int p1), .val (.long q2), .second, .val (.int p3), .val (.long q4), .second, .val (.int p5), .val (.int (own_k p1)), .val (.float (LN.B (own_k p1))), .val (.int (p3 &&& (7 : Int32))), .val (.long (own_a p3)), .second, .val (.long (own_n q2)), .second, .val (.double (LN.ln (LN.B (own_k p1)) (own_n q2) (FP.l2d (own_a p3)))), .second, .val (.long (own_N (own_k p1) (own_a p3) (own_n q2))), .second, .val (.int (1 : Int32)), .unset, .unset, .unset, .unset, .unset, .unset, .unset, .unset, .unset, .unset, .unset, .unset, .unset, .unset, .unset] [])) _
    refine XS.iload X2.here hx rfl (hb hby at_91) rfl ?_
    show Steps p.tables e below (T2.setTop (mkF m 93 #[.val (.int p1), .val (.long q2), .second, .val (.int p3), .val (.long q4), .second, .val (.int p5), .val (.int (own_k p1)), .val (.float (LN.B (own_k p1))), .val (.int (p3 &&& (7 : Int32))), .val (.long (own_a p3)), .second, .val (.long (own_n q2)), .second, .val (.double (LN.ln (LN.B (own_k p1)) (own_n q2) (FP.l2d (own_a p3)))), .second, .val (.long (own_N (own_k p1) (own_a p3) (own_n q2))), .second, .val (.int (1 : Int32)), .unset, .unset, .unset, .unset, .unset, .unset, .unset, .unset, .unset, .unset, .unset, .unset, .unset, .unset, .unset] [(.int p5)])) _
    refine XS.sipush X2.here hx rfl (hb hby at_93) ?_
    show Steps p.tables e below (T2.setTop (mkF m 96 #[.val (.int p1), .val (.long q2), .second, .val (.int p3), .val (.long q4), .second, .val (.int p5), .val (.int (own_k p1)), .val (.float (LN.B (own_k p1))), .val (.int (p3 &&& (7 : Int32))), .val (.long (own_a p3)), .second, .val (.long (own_n q2)), .second, .val (.double (LN.ln (LN.B (own_k p1)) (own_n q2) (FP.l2d (own_a p3)))), .second, .val (.long (own_N (own_k p1) (own_a p3) (own_n q2))), .second, .val (.int (1 : Int32)), .unset, .unset, .unset, .unset, .unset, .unset, .unset, .unset, .unset, .unset, .unset, .unset, .unset, .unset, .unset] [(.int (1023 : Int32)), (.int p5)])) _
    refine XS.iand X2.here hx rfl (hb hby at_96) rfl ?_
    show Steps p.tables e below (T2.setTop (mkF m 97 #[.val (.int p1), .val (.long q2), .second, .val (.int p3), .val (.long q4), .second, .val (.int p5), .val (.int (own_k p1)), .val (.float (LN.B (own_k p1))), .val (.int (p3 &&& (7 : Int32))), .val (.long (own_a p3)), .second, .val (.long (own_n q2)), .second, .val (.double (LN.ln (LN.B (own_k p1)) (own_n q2) (FP.l2d (own_a p3)))), .second, .val (.long (own_N (own_k p1) (own_a p3) (own_n q2))), .second, .val (.int (1 : Int32)), .unset, .unset, .unset, .unset, .unset, .unset, .unset, .unset, .unset, .unset, .unset, .unset, .unset, .unset, .unset] [(.int (p5 &&& (1023 : Int32)))])) _
    refine XS.iconst X2.here hx rfl (hb hby at_97) ?_
    show Steps p.tables e below (T2.setTop (mkF m 98 #[.val (.int p1), .val (.long q2), .second, .val (.int p3), .val (.long q4), .second, .val (.int p5), .val (.int (own_k p1)), .val (.float (LN.B (own_k p1))), .val (.int (p3 &&& (7 : Int32))), .val (.long (own_a p3)), .second, .val (.long (own_n q2)), .second, .val (.double (LN.ln (LN.B (own_k p1)) (own_n q2) (FP.l2d (own_a p3)))), .second, .val (.long (own_N (own_k p1) (own_a p3) (own_n q2))), .second, .val (.int (1 : Int32)), .unset, .unset, .unset, .unset, .unset, .unset, .unset, .unset, .unset, .unset, .unset, .unset, .unset, .unset, .unset] [(.int (1 : Int32)), (.int (p5 &&& (1023 : Int32)))])) _
    refine XS.iadd X2.here hx rfl (hb hby at_98) rfl ?_
    show Steps p.tables e below (T2.setTop (mkF m 99 #[.val (.int p1), .val (.long q2), .second, .val (.int p3), .val (.long q4), .second, .val (.int p5), .val (.int (own_k p1)), .val (.float (LN.B (own_k p1))), .val (.int (p3 &&& (7 : Int32))), .val (.long (own_a p3)), .second, .val (.long (own_n q2)), .second, .val (.double (LN.ln (LN.B (own_k p1)) (own_n q2) (FP.l2d (own_a p3)))), .second, .val (.long (own_N (own_k p1) (own_a p3) (own_n q2))), .second, .val (.int (1 : Int32)), .unset, .unset, .unset, .unset, .unset, .unset, .unset, .unset, .unset, .unset, .unset, .unset, .unset, .unset, .unset] [(.int (own_j p5))])) _
    refine XS.i2dS X2.here hx rfl (v := (FP.i2d (own_j p5))) (hb hby at_99) rfl rfl ?_
    show Steps p.tables e below (T2.setTop (mkF m 100 #[.val (.int p1), .val (.long q2), .second, .val (.int p3), .val (.long q4), .second, .val (.int p5), .val (.int (own_k p1)), .val (.float (LN.B (own_k p1))), .val (.int (p3 &&& (7 : Int32))), .val (.long (own_a p3)), .second, .val (.long (own_n q2)), .second, .val (.double (LN.ln (LN.B (own_k p1)) (own_n q2) (FP.l2d (own_a p3)))), .second, .val (.long (own_N (own_k p1) (own_a p3) (own_n q2))), .second, .val (.int (1 : Int32)), .unset, .unset, .unset, .unset, .unset, .unset, .unset, .unset, .unset, .unset, .unset, .unset, .unset, .unset, .unset] [(.double (FP.i2d (own_j p5)))])) _
    refine XS.dstore X2.here hx rfl (hb hby at_100) rfl (l' := #[.val (.int p1), .val (.long q2), .second, .val (.int p3), .val (.long q4), .second, .val (.int p5), .val (.int (own_k p1)), .val (.float (LN.B (own_k p1))), .val (.int (p3 &&& (7 : Int32))), .val (.long (own_a p3)), .second, .val (.long (own_n q2)), .second, .val (.double (LN.ln (LN.B (own_k p1)) (own_n q2) (FP.l2d (own_a p3)))), .second, .val (.long (own_N (own_k p1) (own_a p3) (own_n q2))), .second, .val (.int (1 : Int32)), .val (.double (FP.i2d (own_j p5))), .second, .unset, .unset, .unset, .unset, .unset, .unset, .unset, .unset, .unset, .unset, .unset, .unset, .unset]) rfl ?_
    show Steps p.tables e below (T2.setTop (mkF m 102 #[.val (.int p1), .val (.long q2), .second, .val (.int p3), .val (.long q4), .second, .val (.int p5), .val (.int (own_k p1)), .val (.float (LN.B (own_k p1))), .val (.int (p3 &&& (7 : Int32))), .val (.long (own_a p3)), .second, .val (.long (own_n q2)), .second, .val (.double (LN.ln (LN.B (own_k p1)) (own_n q2) (FP.l2d (own_a p3)))), .second, .val (.long (own_N (own_k p1) (own_a p3) (own_n q2))), .second, .val (.int (1 : Int32)), .val (.double (FP.i2d (own_j p5))), .second, .unset, .unset, .unset, .unset, .unset, .unset, .unset, .unset, .unset, .unset, .unset, .unset, .unset] [])) _
    refine XS.lloadN X2.here hx rfl (hb hby at_102) rfl ?_
    show Steps p.tables e below (T2.setTop (mkF m 103 #[.val (.int p1), .val (.long q2), .second, .val (.int p3), .val (.long q4), .second, .val (.int p5), .val (.int (own_k p1)), .val (.float (LN.B (own_k p1))), .val (.int (p3 &&& (7 : Int32))), .val (.long (own_a p3)), .second, .val (.long (own_n q2)), .second, .val (.double (LN.ln (LN.B (own_k p1)) (own_n q2) (FP.l2d (own_a p3)))), .second, .val (.long (own_N (own_k p1) (own_a p3) (own_n q2))), .second, .val (.int (1 : Int32)), .val (.double (FP.i2d (own_j p5))), .second, .unset, .unset, .unset, .unset, .unset, .unset, .unset, .unset, .unset, .unset, .unset, .unset, .unset] [(.long q2)])) _
    refine X2.ldc2Long hx hown (mvT hZ (hw _ (List.mem_of_getElem? (i := 8) rfl))) (g := (mkF m 103 #[.val (.int p1), .val (.long q2), .second, .val (.int p3), .val (.long q4), .second, .val (.int p5), .val (.int (own_k p1)), .val (.float (LN.B (own_k p1))), .val (.int (p3 &&& (7 : Int32))), .val (.long (own_a p3)), .second, .val (.long (own_n q2)), .second, .val (.double (LN.ln (LN.B (own_k p1)) (own_n q2) (FP.l2d (own_a p3)))), .second, .val (.long (own_N (own_k p1) (own_a p3) (own_n q2))), .second, .val (.int (1 : Int32)), .val (.double (FP.i2d (own_j p5))), .second, .unset, .unset, .unset, .unset, .unset, .unset, .unset, .unset, .unset, .unset, .unset, .unset, .unset] [(.long q2)])) rfl (hb hby at_103) _ ?_
    show Steps p.tables e below (T2.setTop (mkF m 106 #[.val (.int p1), .val (.long q2), .second, .val (.int p3), .val (.long q4), .second, .val (.int p5), .val (.int (own_k p1)), .val (.float (LN.B (own_k p1))), .val (.int (p3 &&& (7 : Int32))), .val (.long (own_a p3)), .second, .val (.long (own_n q2)), .second, .val (.double (LN.ln (LN.B (own_k p1)) (own_n q2) (FP.l2d (own_a p3)))), .second, .val (.long (own_N (own_k p1) (own_a p3) (own_n q2))), .second, .val (.int (1 : Int32)), .val (.double (FP.i2d (own_j p5))), .second, .unset, .unset, .unset, .unset, .unset, .unset, .unset, .unset, .unset, .unset, .unset, .unset, .unset] [(.long (9223372036854775807 : Int64)), (.long q2)])) _
    refine XS.land X2.here hx rfl (hb hby at_106) rfl ?_
    show Steps p.tables e below (T2.setTop (mkF m 107 #[.val (.int p1), .val (.long q2), .second, .val (.int p3), .val (.long q4), .second, .val (.int p5), .val (.int (own_k p1)), .val (.float (LN.B (own_k p1))), .val (.int (p3 &&& (7 : Int32))), .val (.long (own_a p3)), .second, .val (.long (own_n q2)), .second, .val (.double (LN.ln (LN.B (own_k p1)) (own_n q2) (FP.l2d (own_a p3)))), .second, .val (.long (own_N (own_k p1) (own_a p3) (own_n q2))), .second, .val (.int (1 : Int32)), .val (.double (FP.i2d (own_j p5))), .second, .unset, .unset, .unset, .unset, .unset, .unset, .unset, .unset, .unset, .unset, .unset, .unset, .unset] [(.long (own_p q2))])) _
    refine XS.lstore X2.here hx rfl (hb hby at_107) rfl (l' := #[.val (.int p1), .val (.long q2), .second, .val (.int p3), .val (.long q4), .second, .val (.int p5), .val (.int (own_k p1)), .val (.float (LN.B (own_k p1))), .val (.int (p3 &&& (7 : Int32))), .val (.long (own_a p3)), .second, .val (.long (own_n q2)), .second, .val (.double (LN.ln (LN.B (own_k p1)) (own_n q2) (FP.l2d (own_a p3)))), .second, .val (.long (own_N (own_k p1) (own_a p3) (own_n q2))), .second, .val (.int (1 : Int32)), .val (.double (FP.i2d (own_j p5))), .second, .val (.long (own_p q2)), .second, .unset, .unset, .unset, .unset, .unset, .unset, .unset, .unset, .unset, .unset, .unset]) rfl ?_
    show Steps p.tables e below (T2.setTop (mkF m 109 #[.val (.int p1), .val (.long q2), .second, .val (.int p3), .val (.long q4), .second, .val (.int p5), .val (.int (own_k p1)), .val (.float (LN.B (own_k p1))), .val (.int (p3 &&& (7 : Int32))), .val (.long (own_a p3)), .second, .val (.long (own_n q2)), .second, .val (.double (LN.ln (LN.B (own_k p1)) (own_n q2) (FP.l2d (own_a p3)))), .second, .val (.long (own_N (own_k p1) (own_a p3) (own_n q2))), .second, .val (.int (1 : Int32)), .val (.double (FP.i2d (own_j p5))), .second, .val (.long (own_p q2)), .second, .unset, .unset, .unset, .unset, .unset, .unset, .unset, .unset, .unset, .unset, .unset] [])) _
    refine XS.lload X2.here hx rfl (hb hby at_109) rfl ?_
    show Steps p.tables e below (T2.setTop (mkF m 111 #[.val (.int p1), .val (.long q2), .second, .val (.int p3), .val (.long q4), .second, .val (.int p5), .val (.int (own_k p1)), .val (.float (LN.B (own_k p1))), .val (.int (p3 &&& (7 : Int32))), .val (.long (own_a p3)), .second, .val (.long (own_n q2)), .second, .val (.double (LN.ln (LN.B (own_k p1)) (own_n q2) (FP.l2d (own_a p3)))), .second, .val (.long (own_N (own_k p1) (own_a p3) (own_n q2))), .second, .val (.int (1 : Int32)), .val (.double (FP.i2d (own_j p5))), .second, .val (.long (own_p q2)), .second, .unset, .unset, .unset, .unset, .unset, .unset, .unset, .unset, .unset, .unset, .unset] [(.long q4)])) _
    refine X2.ldc2Long hx hown (mvT hZ (hw _ (List.mem_of_getElem? (i := 8) rfl))) (g := (mkF m 111 #[.val (.int p1), .val (.long q2), .second, .val (.int p3), .val (.long q4), .second, .val (.int p5), .val (.int (own_k p1)), .val (.float (LN.B (own_k p1))), .val (.int (p3 &&& (7 : Int32))), .val (.long (own_a p3)), .second, .val (.long (own_n q2)), .second, .val (.double (LN.ln (LN.B (own_k p1)) (own_n q2) (FP.l2d (own_a p3)))), .second, .val (.long (own_N (own_k p1) (own_a p3) (own_n q2))), .second, .val (.int (1 : Int32)), .val (.double (FP.i2d (own_j p5))), .second, .val (.long (own_p q2)), .second, .unset, .unset, .unset, .unset, .unset, .unset, .unset, .unset, .unset, .unset, .unset] [(.long q4)])) rfl (hb hby at_111) _ ?_
    show Steps p.tables e below (T2.setTop (mkF m 114 #[.val (.int p1), .val (.long q2), .second, .val (.int p3), .val (.long q4), .second, .val (.int p5), .val (.int (own_k p1)), .val (.float (LN.B (own_k p1))), .val (.int (p3 &&& (7 : Int32))), .val (.long (own_a p3)), .second, .val (.long (own_n q2)), .second, .val (.double (LN.ln (LN.B (own_k p1)) (own_n q2) (FP.l2d (own_a p3)))), .second, .val (.long (own_N (own_k p1) (own_a p3) (own_n q2))), .second, .val (.int (1 : Int32)), .val (.double (FP.i2d (own_j p5))), .second, .val (.long (own_p q2)), .second, .unset, .unset, .unset, .unset, .unset, .unset, .unset, .unset, .unset, .unset, .unset] [(.long (9223372036854775807 : Int64)), (.long q4)])) _
    refine XS.land X2.here hx rfl (hb hby at_114) rfl ?_
    show Steps p.tables e below (T2.setTop (mkF m 115 #[.val (.int p1), .val (.long q2), .second, .val (.int p3), .val (.long q4), .second, .val (.int p5), .val (.int (own_k p1)), .val (.float (LN.B (own_k p1))), .val (.int (p3 &&& (7 : Int32))), .val (.long (own_a p3)), .second, .val (.long (own_n q2)), .second, .val (.double (LN.ln (LN.B (own_k p1)) (own_n q2) (FP.l2d (own_a p3)))), .second, .val (.long (own_N (own_k p1) (own_a p3) (own_n q2))), .second, .val (.int (1 : Int32)), .val (.double (FP.i2d (own_j p5))), .second, .val (.long (own_p q2)), .second, .unset, .unset, .unset, .unset, .unset, .unset, .unset, .unset, .unset, .unset, .unset] [(.long (own_p q4))])) _
    refine XS.lstore X2.here hx rfl (hb hby at_115) rfl (l' := #[.val (.int p1), .val (.long q2), .second, .val (.int p3), .val (.long q4), .second, .val (.int p5), .val (.int (own_k p1)), .val (.float (LN.B (own_k p1))), .val (.int (p3 &&& (7 : Int32))), .val (.long (own_a p3)), .second, .val (.long (own_n q2)), .second, .val (.double (LN.ln (LN.B (own_k p1)) (own_n q2) (FP.l2d (own_a p3)))), .second, .val (.long (own_N (own_k p1) (own_a p3) (own_n q2))), .second, .val (.int (1 : Int32)), .val (.double (FP.i2d (own_j p5))), .second, .val (.long (own_p q2)), .second, .val (.long (own_p q4)), .second, .unset, .unset, .unset, .unset, .unset, .unset, .unset, .unset, .unset]) rfl ?_
    show Steps p.tables e below (T2.setTop (mkF m 117 #[.val (.int p1), .val (.long q2), .second, .val (.int p3), .val (.long q4), .second, .val (.int p5), .val (.int (own_k p1)), .val (.float (LN.B (own_k p1))), .val (.int (p3 &&& (7 : Int32))), .val (.long (own_a p3)), .second, .val (.long (own_n q2)), .second, .val (.double (LN.ln (LN.B (own_k p1)) (own_n q2) (FP.l2d (own_a p3)))), .second, .val (.long (own_N (own_k p1) (own_a p3) (own_n q2))), .second, .val (.int (1 : Int32)), .val (.double (FP.i2d (own_j p5))), .second, .val (.long (own_p q2)), .second, .val (.long (own_p q4)), .second, .unset, .unset, .unset, .unset, .unset, .unset, .unset, .unset, .unset] [])) _
    refine XS.lload X2.here hx rfl (hb hby at_117) rfl ?_
    show Steps p.tables e below (T2.setTop (mkF m 119 #[.val (.int p1), .val (.long q2), .second, .val (.int p3), .val (.long q4), .second, .val (.int p5), .val (.int (own_k p1)), .val (.float (LN.B (own_k p1))), .val (.int (p3 &&& (7 : Int32))), .val (.long (own_a p3)), .second, .val (.long (own_n q2)), .second, .val (.double (LN.ln (LN.B (own_k p1)) (own_n q2) (FP.l2d (own_a p3)))), .second, .val (.long (own_N (own_k p1) (own_a p3) (own_n q2))), .second, .val (.int (1 : Int32)), .val (.double (FP.i2d (own_j p5))), .second, .val (.long (own_p q2)), .second, .val (.long (own_p q4)), .second, .unset, .unset, .unset, .unset, .unset, .unset, .unset, .unset, .unset] [(.long (own_p q2))])) _
    refine XS.lload X2.here hx rfl (hb hby at_119) rfl ?_
    exact kt
  obtain ⟨_, _, ⟨T4, L4, k4, n4⟩, -, X4, ⟨Lc4, hQ4, l4, y4, z4⟩, st4⟩ := Jvm.LawKit.callS X2 hx (y := (⟨"java/lang/Math", "min", "(JJ)J"⟩ : MethodName)) hown (mvT hZ (hw _ (List.mem_of_getElem? (i := 9) rfl))) (mvT hZ (hw _ (List.mem_of_getElem? (i := 10) rfl))) (mvT hZ (hw _ (List.mem_of_getElem? (i := 11) rfl))) (mvT hZ (hw _ (List.mem_of_getElem? (i := 12) rfl))) (by decide) (backOf (W := 0) (rmin l Z a0 hw [] (own_p q2) (own_p q4) h0 n0 Z0 ) hZ (hw _ (List.mem_of_getElem? (i := 12) rfl)) (hw _ (List.mem_of_getElem? (i := 11) rfl)) (by decide) (by decide)) (g := (mkF m 121 #[.val (.int p1), .val (.long q2), .second, .val (.int p3), .val (.long q4), .second, .val (.int p5), .val (.int (own_k p1)), .val (.float (LN.B (own_k p1))), .val (.int (p3 &&& (7 : Int32))), .val (.long (own_a p3)), .second, .val (.long (own_n q2)), .second, .val (.double (LN.ln (LN.B (own_k p1)) (own_n q2) (FP.l2d (own_a p3)))), .second, .val (.long (own_N (own_k p1) (own_a p3) (own_n q2))), .second, .val (.int (1 : Int32)), .val (.double (FP.i2d (own_j p5))), .second, .val (.long (own_p q2)), .second, .val (.long (own_p q4)), .second, .unset, .unset, .unset, .unset, .unset, .unset, .unset, .unset, .unset] [(.long (own_p q4)), (.long (own_p q2))])) rfl (by rw [hml]; rfl) (argsL := [(.long (own_p q2)), (.long (own_p q4))]) (rest := []) (lenOf pd_2 rfl) rfl (by show 2 * 0 + _ ≤ _; exact Nat.le_of_eq rfl) (hb hby at_121) (fun _ _ => ⟨rfl, c2_0, (by decide : 0 + 0 ≤ _), (by decide : 0 + 0 ≤ _)⟩)
  dsimp only [Pt.U, Pt.locs, Pt.cells, Pt.slots] at X4 l4 y4 z4 st4 hQ4
  subst l4 y4 z4
  obtain ⟨rfl, N4q, c4_0⟩ := hQ4
  have N4 := Fr.app N2 N4q
  have sg5 : ∀ target, Steps p.tables e below (T4.setTop (mkF m 130 #[.val (.int p1), .val (.long q2), .second, .val (.int p3), .val (.long q4), .second, .val (.int p5), .val (.int (own_k p1)), .val (.float (LN.B (own_k p1))), .val (.int (p3 &&& (7 : Int32))), .val (.long (own_a p3)), .second, .val (.long (own_n q2)), .second, .val (.double (LN.ln (LN.B (own_k p1)) (own_n q2) (FP.l2d (own_a p3)))), .second, .val (.long (own_N (own_k p1) (own_a p3) (own_n q2))), .second, .val (.int (1 : Int32)), .val (.double (FP.i2d (own_j p5))), .second, .val (.long (own_p q2)), .second, .val (.long (own_p q4)), .second, .val (.long (own_min (own_p q2) (own_p q4))), .second, .unset, .unset, .unset, .unset, .unset, .unset, .unset] [(.long (own_p q4)), (.long (own_p q2))])) target → Steps p.tables e below (T4.setTop (mkF m 124 #[.val (.int p1), .val (.long q2), .second, .val (.int p3), .val (.long q4), .second, .val (.int p5), .val (.int (own_k p1)), .val (.float (LN.B (own_k p1))), .val (.int (p3 &&& (7 : Int32))), .val (.long (own_a p3)), .second, .val (.long (own_n q2)), .second, .val (.double (LN.ln (LN.B (own_k p1)) (own_n q2) (FP.l2d (own_a p3)))), .second, .val (.long (own_N (own_k p1) (own_a p3) (own_n q2))), .second, .val (.int (1 : Int32)), .val (.double (FP.i2d (own_j p5))), .second, .val (.long (own_p q2)), .second, .val (.long (own_p q4)), .second, .unset, .unset, .unset, .unset, .unset, .unset, .unset, .unset, .unset] [(.long (own_min (own_p q2) (own_p q4)))])) target := by
    intro target kt
    show Steps p.tables e below (T4.setTop (mkF m 124 #[.val (.int p1), .val (.long q2), .second, .val (.int p3), .val (.long q4), .second, .val (.int p5), .val (.int (own_k p1)), .val (.float (LN.B (own_k p1))), .val (.int (p3 &&& (7 : Int32))), .val (.long (own_a p3)), .second, .val (.long (own_n q2)), .second, .val (.double (LN.ln (LN.B (own_k p1)) (own_n q2) (FP.l2d (own_a p3)))), .second, .val (.long (own_N (own_k p1) (own_a p3) (own_n q2))), .second, .val (.int (1 : Int32)), .val (.double (FP.i2d (own_j p5))), .second, .val (.long (own_p q2)), .second, .val (.long (own_p q4)), .second, .unset, .unset, .unset, .unset, .unset, .unset, .unset, .unset, .unset] [(.long (own_min (own_p q2) (own_p q4)))])) _
    refine XS.lstore X4.here hx rfl (hb hby at_124) rfl (l' := #[.val (.int p1), .val (.long q2), .second, .val (.int p3), .val (.long q4), .second, .val (.int p5), .val (.int (own_k p1)), .val (.float (LN.B (own_k p1))), .val (.int (p3 &&& (7 : Int32))), .val (.long (own_a p3)), .second, .val (.long (own_n q2)), .second, .val (.double (LN.ln (LN.B (own_k p1)) (own_n q2) (FP.l2d (own_a p3)))), .second, .val (.long (own_N (own_k p1) (own_a p3) (own_n q2))), .second, .val (.int (1 : Int32)), .val (.double (FP.i2d (own_j p5))), .second, .val (.long (own_p q2)), .second, .val (.long (own_p q4)), .second, .val (.long (own_min (own_p q2) (own_p q4))), .second, .unset, .unset, .unset, .unset, .unset, .unset, .unset]) rfl ?_
    show Steps p.tables e below (T4.setTop (mkF m 126 #[.val (.int p1), .val (.long q2), .second, .val (.int p3), .val (.long q4), .second, .val (.int p5), .val (.int (own_k p1)), .val (.float (LN.B (own_k p1))), .val (.int (p3 &&& (7 : Int32))), .val (.long (own_a p3)), .second, .val (.long (own_n q2)), .second, .val (.double (LN.ln (LN.B (own_k p1)) (own_n q2) (FP.l2d (own_a p3)))), .second, .val (.long (own_N (own_k p1) (own_a p3) (own_n q2))), .second, .val (.int (1 : Int32)), .val (.double (FP.i2d (own_j p5))), .second, .val (.long (own_p q2)), .second, .val (.long (own_p q4)), .second, .val (.long (own_min (own_p q2) (own_p q4))), .second, .unset, .unset, .unset, .unset, .unset, .unset, .unset] [])) _
    refine XS.lload X4.here hx rfl (hb hby at_126) rfl ?_
    show Steps p.tables e below (T4.setTop (mkF m 128 #[.val (.int p1), .val (.long q2), .second, .val (.int p3), .val (.long q4), .second, .val (.int p5), .val (.int (own_k p1)), .val (.float (LN.B (own_k p1))), .val (.int (p3 &&& (7 : Int32))), .val (.long (own_a p3)), .second, .val (.long (own_n q2)), .second, .val (.double (LN.ln (LN.B (own_k p1)) (own_n q2) (FP.l2d (own_a p3)))), .second, .val (.long (own_N (own_k p1) (own_a p3) (own_n q2))), .second, .val (.int (1 : Int32)), .val (.double (FP.i2d (own_j p5))), .second, .val (.long (own_p q2)), .second, .val (.long (own_p q4)), .second, .val (.long (own_min (own_p q2) (own_p q4))), .second, .unset, .unset, .unset, .unset, .unset, .unset, .unset] [(.long (own_p q2))])) _
    refine XS.lload X4.here hx rfl (hb hby at_128) rfl ?_
    exact kt
  obtain ⟨_, _, ⟨T6, L6, k6, n6⟩, -, X6, ⟨Lc6, hQ6, l6, y6, z6⟩, st6⟩ := Jvm.LawKit.callS X4 hx (y := (⟨"java/lang/Math", "max", "(JJ)J"⟩ : MethodName)) hown (mvT hZ (hw _ (List.mem_of_getElem? (i := 13) rfl))) (mvT hZ (hw _ (List.mem_of_getElem? (i := 14) rfl))) (mvT hZ (hw _ (List.mem_of_getElem? (i := 11) rfl))) (mvT hZ (hw _ (List.mem_of_getElem? (i := 15) rfl))) (by decide) (backOf (W := 0) (rmax l Z a0 hw [] (own_p q2) (own_p q4) h0 n0 Z0 ) hZ (hw _ (List.mem_of_getElem? (i := 15) rfl)) (hw _ (List.mem_of_getElem? (i := 11) rfl)) (by decide) (by decide)) (g := (mkF m 130 #[.val (.int p1), .val (.long q2), .second, .val (.int p3), .val (.long q4), .second, .val (.int p5), .val (.int (own_k p1)), .val (.float (LN.B (own_k p1))), .val (.int (p3 &&& (7 : Int32))), .val (.long (own_a p3)), .second, .val (.long (own_n q2)), .second, .val (.double (LN.ln (LN.B (own_k p1)) (own_n q2) (FP.l2d (own_a p3)))), .second, .val (.long (own_N (own_k p1) (own_a p3) (own_n q2))), .second, .val (.int (1 : Int32)), .val (.double (FP.i2d (own_j p5))), .second, .val (.long (own_p q2)), .second, .val (.long (own_p q4)), .second, .val (.long (own_min (own_p q2) (own_p q4))), .second, .unset, .unset, .unset, .unset, .unset, .unset, .unset] [(.long (own_p q4)), (.long (own_p q2))])) rfl (by rw [hml]; rfl) (argsL := [(.long (own_p q2)), (.long (own_p q4))]) (rest := []) (lenOf pd_2 rfl) rfl (by show 2 * 0 + _ ≤ _; exact Nat.le_of_eq rfl) (hb hby at_130) (fun _ _ => ⟨rfl, c4_0, (by decide : 0 + 0 ≤ _), (by decide : 0 + 0 ≤ _)⟩)
  dsimp only [Pt.U, Pt.locs, Pt.cells, Pt.slots] at X6 l6 y6 z6 st6 hQ6
  subst l6 y6 z6
  obtain ⟨rfl, N6q, c6_0⟩ := hQ6
  have N6 := Fr.app N4 N6q
  have sg7 : ∀ target, Steps p.tables e below (T6.setTop (mkF m 141 #[.val (.int p1), .val (.long q2), .second, .val (.int p3), .val (.long q4), .second, .val (.int p5), .val (.int (own_k p1)), .val (.float (LN.B (own_k p1))), .val (.int (p3 &&& (7 : Int32))), .val (.long (own_a p3)), .second, .val (.long (own_n q2)), .second, .val (.double (LN.ln (LN.B (own_k p1)) (own_n q2) (FP.l2d (own_a p3)))), .second, .val (.long (own_N (own_k p1) (own_a p3) (own_n q2))), .second, .val (.int (1 : Int32)), .val (.double (FP.i2d (own_j p5))), .second, .val (.long (own_p q2)), .second, .val (.long (own_p q4)), .second, .val (.long (own_min (own_p q2) (own_p q4))), .second, .val (.long (own_max (own_p q2) (own_p q4))), .second, .unset, .unset, .unset, .unset, .unset] [(.double (FP.i2d (own_j p5))), (.long (own_min (own_p q2) (own_p q4))), (.float (LN.B (own_k p1)))])) target → Steps p.tables e below (T6.setTop (mkF m 133 #[.val (.int p1), .val (.long q2), .second, .val (.int p3), .val (.long q4), .second, .val (.int p5), .val (.int (own_k p1)), .val (.float (LN.B (own_k p1))), .val (.int (p3 &&& (7 : Int32))), .val (.long (own_a p3)), .second, .val (.long (own_n q2)), .second, .val (.double (LN.ln (LN.B (own_k p1)) (own_n q2) (FP.l2d (own_a p3)))), .second, .val (.long (own_N (own_k p1) (own_a p3) (own_n q2))), .second, .val (.int (1 : Int32)), .val (.double (FP.i2d (own_j p5))), .second, .val (.long (own_p q2)), .second, .val (.long (own_p q4)), .second, .val (.long (own_min (own_p q2) (own_p q4))), .second, .unset, .unset, .unset, .unset, .unset, .unset, .unset] [(.long (own_max (own_p q2) (own_p q4)))])) target := by
    intro target kt
    show Steps p.tables e below (T6.setTop (mkF m 133 #[.val (.int p1), .val (.long q2), .second, .val (.int p3), .val (.long q4), .second, .val (.int p5), .val (.int (own_k p1)), .val (.float (LN.B (own_k p1))), .val (.int (p3 &&& (7 : Int32))), .val (.long (own_a p3)), .second, .val (.long (own_n q2)), .second, .val (.double (LN.ln (LN.B (own_k p1)) (own_n q2) (FP.l2d (own_a p3)))), .second, .val (.long (own_N (own_k p1) (own_a p3) (own_n q2))), .second, .val (.int (1 : Int32)), .val (.double (FP.i2d (own_j p5))), .second, .val (.long (own_p q2)), .second, .val (.long (own_p q4)), .second, .val (.long (own_min (own_p q2) (own_p q4))), .second, .unset, .unset, .unset, .unset, .unset, .unset, .unset] [(.long (own_max (own_p q2) (own_p q4)))])) _
    refine XS.lstore X6.here hx rfl (hb hby at_133) rfl (l' := #[.val (.int p1), .val (.long q2), .second, .val (.int p3), .val (.long q4), .second, .val (.int p5), .val (.int (own_k p1)), .val (.float (LN.B (own_k p1))), .val (.int (p3 &&& (7 : Int32))), .val (.long (own_a p3)), .second, .val (.long (own_n q2)), .second, .val (.double (LN.ln (LN.B (own_k p1)) (own_n q2) (FP.l2d (own_a p3)))), .second, .val (.long (own_N (own_k p1) (own_a p3) (own_n q2))), .second, .val (.int (1 : Int32)), .val (.double (FP.i2d (own_j p5))), .second, .val (.long (own_p q2)), .second, .val (.long (own_p q4)), .second, .val (.long (own_min (own_p q2) (own_p q4))), .second, .val (.long (own_max (own_p q2) (own_p q4))), .second, .unset, .unset, .unset, .unset, .unset]) rfl ?_
    show Steps p.tables e below (T6.setTop (mkF m 135 #[.val (.int p1), .val (.long q2), .second, .val (.int p3), .val (.long q4), .second, .val (.int p5), .val (.int (own_k p1)), .val (.float (LN.B (own_k p1))), .val (.int (p3 &&& (7 : Int32))), .val (.long (own_a p3)), .second, .val (.long (own_n q2)), .second, .val (.double (LN.ln (LN.B (own_k p1)) (own_n q2) (FP.l2d (own_a p3)))), .second, .val (.long (own_N (own_k p1) (own_a p3) (own_n q2))), .second, .val (.int (1 : Int32)), .val (.double (FP.i2d (own_j p5))), .second, .val (.long (own_p q2)), .second, .val (.long (own_p q4)), .second, .val (.long (own_min (own_p q2) (own_p q4))), .second, .val (.long (own_max (own_p q2) (own_p q4))), .second, .unset, .unset, .unset, .unset, .unset] [])) _
    refine XS.fload X6.here hx rfl (hb hby at_135) rfl ?_
    show Steps p.tables e below (T6.setTop (mkF m 137 #[.val (.int p1), .val (.long q2), .second, .val (.int p3), .val (.long q4), .second, .val (.int p5), .val (.int (own_k p1)), .val (.float (LN.B (own_k p1))), .val (.int (p3 &&& (7 : Int32))), .val (.long (own_a p3)), .second, .val (.long (own_n q2)), .second, .val (.double (LN.ln (LN.B (own_k p1)) (own_n q2) (FP.l2d (own_a p3)))), .second, .val (.long (own_N (own_k p1) (own_a p3) (own_n q2))), .second, .val (.int (1 : Int32)), .val (.double (FP.i2d (own_j p5))), .second, .val (.long (own_p q2)), .second, .val (.long (own_p q4)), .second, .val (.long (own_min (own_p q2) (own_p q4))), .second, .val (.long (own_max (own_p q2) (own_p q4))), .second, .unset, .unset, .unset, .unset, .unset] [(.float (LN.B (own_k p1)))])) _
    refine XS.lload X6.here hx rfl (hb hby at_137) rfl ?_
    show Steps p.tables e below (T6.setTop (mkF m 139 #[.val (.int p1), .val (.long q2), .second, .val (.int p3), .val (.long q4), .second, .val (.int p5), .val (.int (own_k p1)), .val (.float (LN.B (own_k p1))), .val (.int (p3 &&& (7 : Int32))), .val (.long (own_a p3)), .second, .val (.long (own_n q2)), .second, .val (.double (LN.ln (LN.B (own_k p1)) (own_n q2) (FP.l2d (own_a p3)))), .second, .val (.long (own_N (own_k p1) (own_a p3) (own_n q2))), .second, .val (.int (1 : Int32)), .val (.double (FP.i2d (own_j p5))), .second, .val (.long (own_p q2)), .second, .val (.long (own_p q4)), .second, .val (.long (own_min (own_p q2) (own_p q4))), .second, .val (.long (own_max (own_p q2) (own_p q4))), .second, .unset, .unset, .unset, .unset, .unset] [(.long (own_min (own_p q2) (own_p q4))), (.float (LN.B (own_k p1)))])) _
    refine XS.dload X6.here hx rfl (hb hby at_139) rfl ?_
    exact kt
  obtain ⟨_, _, ⟨T8, L8, k8, n8⟩, -, X8, ⟨Lc8, hQ8, l8, y8, z8⟩, st8⟩ := Jvm.LawKit.callS X6 hx (y := (⟨"com/example/saffron/saffron/Bm25f", "lengthNorm", "(FJD)D"⟩ : MethodName)) hown (mvT hZ (hw _ (List.mem_of_getElem? (i := 3) rfl))) (mvT hZ (hw _ (List.mem_of_getElem? (i := 4) rfl))) (mvT hZ (hw _ (List.mem_of_getElem? (i := 5) rfl))) (mvT hZ (hw _ (List.mem_of_getElem? (i := 6) rfl))) (by decide) (backOf (W := 0) (rm1 l Z a0 hw [] (LN.B (own_k p1)) (own_min (own_p q2) (own_p q4)) (FP.i2d (own_j p5)) h0 n0 Z0 hc2.1 hc2.2.1 hc2.2.2.1 hc2.2.2.2.1 hc2.2.2.2.2.1 hc2.2.2.2.2.2) hZ (hw _ (List.mem_of_getElem? (i := 6) rfl)) (hw _ (List.mem_of_getElem? (i := 5) rfl)) (by decide) (by decide)) (g := (mkF m 141 #[.val (.int p1), .val (.long q2), .second, .val (.int p3), .val (.long q4), .second, .val (.int p5), .val (.int (own_k p1)), .val (.float (LN.B (own_k p1))), .val (.int (p3 &&& (7 : Int32))), .val (.long (own_a p3)), .second, .val (.long (own_n q2)), .second, .val (.double (LN.ln (LN.B (own_k p1)) (own_n q2) (FP.l2d (own_a p3)))), .second, .val (.long (own_N (own_k p1) (own_a p3) (own_n q2))), .second, .val (.int (1 : Int32)), .val (.double (FP.i2d (own_j p5))), .second, .val (.long (own_p q2)), .second, .val (.long (own_p q4)), .second, .val (.long (own_min (own_p q2) (own_p q4))), .second, .val (.long (own_max (own_p q2) (own_p q4))), .second, .unset, .unset, .unset, .unset, .unset] [(.double (FP.i2d (own_j p5))), (.long (own_min (own_p q2) (own_p q4))), (.float (LN.B (own_k p1)))])) rfl (by rw [hml]; rfl) (argsL := [(.float (LN.B (own_k p1))), (.long (own_min (own_p q2) (own_p q4))), (.double (FP.i2d (own_j p5)))]) (rest := []) (lenOf pd_1 rfl) rfl (by show 2 * 0 + _ ≤ _; exact Nat.le_of_eq rfl) (hb hby at_141) (fun _ _ => ⟨rfl, c6_0, (by decide : 0 + 0 ≤ _), (by decide : 0 + 0 ≤ _)⟩)
  dsimp only [Pt.U, Pt.locs, Pt.cells, Pt.slots] at X8 l8 y8 z8 st8 hQ8
  subst l8 y8 z8
  obtain ⟨rfl, N8q, c8_0⟩ := hQ8
  have N8 := Fr.app N6 N8q
  have sg9 : ∀ target, Steps p.tables e below (T8.setTop (mkF m 152 #[.val (.int p1), .val (.long q2), .second, .val (.int p3), .val (.long q4), .second, .val (.int p5), .val (.int (own_k p1)), .val (.float (LN.B (own_k p1))), .val (.int (p3 &&& (7 : Int32))), .val (.long (own_a p3)), .second, .val (.long (own_n q2)), .second, .val (.double (LN.ln (LN.B (own_k p1)) (own_n q2) (FP.l2d (own_a p3)))), .second, .val (.long (own_N (own_k p1) (own_a p3) (own_n q2))), .second, .val (.int (1 : Int32)), .val (.double (FP.i2d (own_j p5))), .second, .val (.long (own_p q2)), .second, .val (.long (own_p q4)), .second, .val (.long (own_min (own_p q2) (own_p q4))), .second, .val (.long (own_max (own_p q2) (own_p q4))), .second, .val (.double (LN.ln (LN.B (own_k p1)) (own_min (own_p q2) (own_p q4)) (FP.i2d (own_j p5)))), .second, .unset, .unset, .unset] [(.double (FP.i2d (own_j p5))), (.long (own_max (own_p q2) (own_p q4))), (.float (LN.B (own_k p1)))])) target → Steps p.tables e below (T8.setTop (mkF m 144 #[.val (.int p1), .val (.long q2), .second, .val (.int p3), .val (.long q4), .second, .val (.int p5), .val (.int (own_k p1)), .val (.float (LN.B (own_k p1))), .val (.int (p3 &&& (7 : Int32))), .val (.long (own_a p3)), .second, .val (.long (own_n q2)), .second, .val (.double (LN.ln (LN.B (own_k p1)) (own_n q2) (FP.l2d (own_a p3)))), .second, .val (.long (own_N (own_k p1) (own_a p3) (own_n q2))), .second, .val (.int (1 : Int32)), .val (.double (FP.i2d (own_j p5))), .second, .val (.long (own_p q2)), .second, .val (.long (own_p q4)), .second, .val (.long (own_min (own_p q2) (own_p q4))), .second, .val (.long (own_max (own_p q2) (own_p q4))), .second, .unset, .unset, .unset, .unset, .unset] [(.double (LN.ln (LN.B (own_k p1)) (own_min (own_p q2) (own_p q4)) (FP.i2d (own_j p5))))])) target := by
    intro target kt
    show Steps p.tables e below (T8.setTop (mkF m 144 #[.val (.int p1), .val (.long q2), .second, .val (.int p3), .val (.long q4), .second, .val (.int p5), .val (.int (own_k p1)), .val (.float (LN.B (own_k p1))), .val (.int (p3 &&& (7 : Int32))), .val (.long (own_a p3)), .second, .val (.long (own_n q2)), .second, .val (.double (LN.ln (LN.B (own_k p1)) (own_n q2) (FP.l2d (own_a p3)))), .second, .val (.long (own_N (own_k p1) (own_a p3) (own_n q2))), .second, .val (.int (1 : Int32)), .val (.double (FP.i2d (own_j p5))), .second, .val (.long (own_p q2)), .second, .val (.long (own_p q4)), .second, .val (.long (own_min (own_p q2) (own_p q4))), .second, .val (.long (own_max (own_p q2) (own_p q4))), .second, .unset, .unset, .unset, .unset, .unset] [(.double (LN.ln (LN.B (own_k p1)) (own_min (own_p q2) (own_p q4)) (FP.i2d (own_j p5))))])) _
    refine XS.dstore X8.here hx rfl (hb hby at_144) rfl (l' := #[.val (.int p1), .val (.long q2), .second, .val (.int p3), .val (.long q4), .second, .val (.int p5), .val (.int (own_k p1)), .val (.float (LN.B (own_k p1))), .val (.int (p3 &&& (7 : Int32))), .val (.long (own_a p3)), .second, .val (.long (own_n q2)), .second, .val (.double (LN.ln (LN.B (own_k p1)) (own_n q2) (FP.l2d (own_a p3)))), .second, .val (.long (own_N (own_k p1) (own_a p3) (own_n q2))), .second, .val (.int (1 : Int32)), .val (.double (FP.i2d (own_j p5))), .second, .val (.long (own_p q2)), .second, .val (.long (own_p q4)), .second, .val (.long (own_min (own_p q2) (own_p q4))), .second, .val (.long (own_max (own_p q2) (own_p q4))), .second, .val (.double (LN.ln (LN.B (own_k p1)) (own_min (own_p q2) (own_p q4)) (FP.i2d (own_j p5)))), .second, .unset, .unset, .unset]) rfl ?_
    show Steps p.tables e below (T8.setTop (mkF m 146 #[.val (.int p1), .val (.long q2), .second, .val (.int p3), .val (.long q4), .second, .val (.int p5), .val (.int (own_k p1)), .val (.float (LN.B (own_k p1))), .val (.int (p3 &&& (7 : Int32))), .val (.long (own_a p3)), .second, .val (.long (own_n q2)), .second, .val (.double (LN.ln (LN.B (own_k p1)) (own_n q2) (FP.l2d (own_a p3)))), .second, .val (.long (own_N (own_k p1) (own_a p3) (own_n q2))), .second, .val (.int (1 : Int32)), .val (.double (FP.i2d (own_j p5))), .second, .val (.long (own_p q2)), .second, .val (.long (own_p q4)), .second, .val (.long (own_min (own_p q2) (own_p q4))), .second, .val (.long (own_max (own_p q2) (own_p q4))), .second, .val (.double (LN.ln (LN.B (own_k p1)) (own_min (own_p q2) (own_p q4)) (FP.i2d (own_j p5)))), .second, .unset, .unset, .unset] [])) _
    refine XS.fload X8.here hx rfl (hb hby at_146) rfl ?_
    show Steps p.tables e below (T8.setTop (mkF m 148 #[.val (.int p1), .val (.long q2), .second, .val (.int p3), .val (.long q4), .second, .val (.int p5), .val (.int (own_k p1)), .val (.float (LN.B (own_k p1))), .val (.int (p3 &&& (7 : Int32))), .val (.long (own_a p3)), .second, .val (.long (own_n q2)), .second, .val (.double (LN.ln (LN.B (own_k p1)) (own_n q2) (FP.l2d (own_a p3)))), .second, .val (.long (own_N (own_k p1) (own_a p3) (own_n q2))), .second, .val (.int (1 : Int32)), .val (.double (FP.i2d (own_j p5))), .second, .val (.long (own_p q2)), .second, .val (.long (own_p q4)), .second, .val (.long (own_min (own_p q2) (own_p q4))), .second, .val (.long (own_max (own_p q2) (own_p q4))), .second, .val (.double (LN.ln (LN.B (own_k p1)) (own_min (own_p q2) (own_p q4)) (FP.i2d (own_j p5)))), .second, .unset, .unset, .unset] [(.float (LN.B (own_k p1)))])) _
    refine XS.lload X8.here hx rfl (hb hby at_148) rfl ?_
    show Steps p.tables e below (T8.setTop (mkF m 150 #[.val (.int p1), .val (.long q2), .second, .val (.int p3), .val (.long q4), .second, .val (.int p5), .val (.int (own_k p1)), .val (.float (LN.B (own_k p1))), .val (.int (p3 &&& (7 : Int32))), .val (.long (own_a p3)), .second, .val (.long (own_n q2)), .second, .val (.double (LN.ln (LN.B (own_k p1)) (own_n q2) (FP.l2d (own_a p3)))), .second, .val (.long (own_N (own_k p1) (own_a p3) (own_n q2))), .second, .val (.int (1 : Int32)), .val (.double (FP.i2d (own_j p5))), .second, .val (.long (own_p q2)), .second, .val (.long (own_p q4)), .second, .val (.long (own_min (own_p q2) (own_p q4))), .second, .val (.long (own_max (own_p q2) (own_p q4))), .second, .val (.double (LN.ln (LN.B (own_k p1)) (own_min (own_p q2) (own_p q4)) (FP.i2d (own_j p5)))), .second, .unset, .unset, .unset] [(.long (own_max (own_p q2) (own_p q4))), (.float (LN.B (own_k p1)))])) _
    refine XS.dload X8.here hx rfl (hb hby at_150) rfl ?_
    exact kt
  obtain ⟨_, _, ⟨T10, L10, k10, n10⟩, -, X10, ⟨Lc10, hQ10, l10, y10, z10⟩, st10⟩ := Jvm.LawKit.callS X8 hx (y := (⟨"com/example/saffron/saffron/Bm25f", "lengthNorm", "(FJD)D"⟩ : MethodName)) hown (mvT hZ (hw _ (List.mem_of_getElem? (i := 3) rfl))) (mvT hZ (hw _ (List.mem_of_getElem? (i := 4) rfl))) (mvT hZ (hw _ (List.mem_of_getElem? (i := 5) rfl))) (mvT hZ (hw _ (List.mem_of_getElem? (i := 6) rfl))) (by decide) (backOf (W := 0) (rm1 l Z a0 hw [] (LN.B (own_k p1)) (own_max (own_p q2) (own_p q4)) (FP.i2d (own_j p5)) h0 n0 Z0 hc3.1 hc3.2.1 hc3.2.2.1 hc3.2.2.2.1 hc3.2.2.2.2.1 hc3.2.2.2.2.2) hZ (hw _ (List.mem_of_getElem? (i := 6) rfl)) (hw _ (List.mem_of_getElem? (i := 5) rfl)) (by decide) (by decide)) (g := (mkF m 152 #[.val (.int p1), .val (.long q2), .second, .val (.int p3), .val (.long q4), .second, .val (.int p5), .val (.int (own_k p1)), .val (.float (LN.B (own_k p1))), .val (.int (p3 &&& (7 : Int32))), .val (.long (own_a p3)), .second, .val (.long (own_n q2)), .second, .val (.double (LN.ln (LN.B (own_k p1)) (own_n q2) (FP.l2d (own_a p3)))), .second, .val (.long (own_N (own_k p1) (own_a p3) (own_n q2))), .second, .val (.int (1 : Int32)), .val (.double (FP.i2d (own_j p5))), .second, .val (.long (own_p q2)), .second, .val (.long (own_p q4)), .second, .val (.long (own_min (own_p q2) (own_p q4))), .second, .val (.long (own_max (own_p q2) (own_p q4))), .second, .val (.double (LN.ln (LN.B (own_k p1)) (own_min (own_p q2) (own_p q4)) (FP.i2d (own_j p5)))), .second, .unset, .unset, .unset] [(.double (FP.i2d (own_j p5))), (.long (own_max (own_p q2) (own_p q4))), (.float (LN.B (own_k p1)))])) rfl (by rw [hml]; rfl) (argsL := [(.float (LN.B (own_k p1))), (.long (own_max (own_p q2) (own_p q4))), (.double (FP.i2d (own_j p5)))]) (rest := []) (lenOf pd_1 rfl) rfl (by show 2 * 0 + _ ≤ _; exact Nat.le_of_eq rfl) (hb hby at_152) (fun _ _ => ⟨rfl, c8_0, (by decide : 0 + 0 ≤ _), (by decide : 0 + 0 ≤ _)⟩)
  dsimp only [Pt.U, Pt.locs, Pt.cells, Pt.slots] at X10 l10 y10 z10 st10 hQ10
  subst l10 y10 z10
  obtain ⟨rfl, N10q, c10_0⟩ := hQ10
  have N10 := Fr.app N8 N10q
  have sg11 : ∀ target, Steps p.tables e below (T10.setTop (mkF m 187 #[.val (.int p1), .val (.long q2), .second, .val (.int p3), .val (.long q4), .second, .val (.int p5), .val (.int (own_k p1)), .val (.float (LN.B (own_k p1))), .val (.int (p3 &&& (7 : Int32))), .val (.long (own_a p3)), .second, .val (.long (own_n q2)), .second, .val (.double (LN.ln (LN.B (own_k p1)) (own_n q2) (FP.l2d (own_a p3)))), .second, .val (.long (own_N (own_k p1) (own_a p3) (own_n q2))), .second, .val (.int (1 : Int32)), .val (.double (FP.i2d (own_j p5))), .second, .val (.long (own_p q2)), .second, .val (.long (own_p q4)), .second, .val (.long (own_min (own_p q2) (own_p q4))), .second, .val (.long (own_max (own_p q2) (own_p q4))), .second, .val (.double (LN.ln (LN.B (own_k p1)) (own_min (own_p q2) (own_p q4)) (FP.i2d (own_j p5)))), .second, .val (.double (LN.ln (LN.B (own_k p1)) (own_max (own_p q2) (own_p q4)) (FP.i2d (own_j p5)))), .second, .val (.int (1 : Int32))] [(.int (1 : Int32))])) target → Steps p.tables e below (T10.setTop (mkF m 155 #[.val (.int p1), .val (.long q2), .second, .val (.int p3), .val (.long q4), .second, .val (.int p5), .val (.int (own_k p1)), .val (.float (LN.B (own_k p1))), .val (.int (p3 &&& (7 : Int32))), .val (.long (own_a p3)), .second, .val (.long (own_n q2)), .second, .val (.double (LN.ln (LN.B (own_k p1)) (own_n q2) (FP.l2d (own_a p3)))), .second, .val (.long (own_N (own_k p1) (own_a p3) (own_n q2))), .second, .val (.int (1 : Int32)), .val (.double (FP.i2d (own_j p5))), .second, .val (.long (own_p q2)), .second, .val (.long (own_p q4)), .second, .val (.long (own_min (own_p q2) (own_p q4))), .second, .val (.long (own_max (own_p q2) (own_p q4))), .second, .val (.double (LN.ln (LN.B (own_k p1)) (own_min (own_p q2) (own_p q4)) (FP.i2d (own_j p5)))), .second, .unset, .unset, .unset] [(.double (LN.ln (LN.B (own_k p1)) (own_max (own_p q2) (own_p q4)) (FP.i2d (own_j p5))))])) target := by
    intro target kt
    show Steps p.tables e below (T10.setTop (mkF m 155 #[.val (.int p1), .val (.long q2), .second, .val (.int p3), .val (.long q4), .second, .val (.int p5), .val (.int (own_k p1)), .val (.float (LN.B (own_k p1))), .val (.int (p3 &&& (7 : Int32))), .val (.long (own_a p3)), .second, .val (.long (own_n q2)), .second, .val (.double (LN.ln (LN.B (own_k p1)) (own_n q2) (FP.l2d (own_a p3)))), .second, .val (.long (own_N (own_k p1) (own_a p3) (own_n q2))), .second, .val (.int (1 : Int32)), .val (.double (FP.i2d (own_j p5))), .second, .val (.long (own_p q2)), .second, .val (.long (own_p q4)), .second, .val (.long (own_min (own_p q2) (own_p q4))), .second, .val (.long (own_max (own_p q2) (own_p q4))), .second, .val (.double (LN.ln (LN.B (own_k p1)) (own_min (own_p q2) (own_p q4)) (FP.i2d (own_j p5)))), .second, .unset, .unset, .unset] [(.double (LN.ln (LN.B (own_k p1)) (own_max (own_p q2) (own_p q4)) (FP.i2d (own_j p5))))])) _
    refine XS.dstore X10.here hx rfl (hb hby at_155) rfl (l' := #[.val (.int p1), .val (.long q2), .second, .val (.int p3), .val (.long q4), .second, .val (.int p5), .val (.int (own_k p1)), .val (.float (LN.B (own_k p1))), .val (.int (p3 &&& (7 : Int32))), .val (.long (own_a p3)), .second, .val (.long (own_n q2)), .second, .val (.double (LN.ln (LN.B (own_k p1)) (own_n q2) (FP.l2d (own_a p3)))), .second, .val (.long (own_N (own_k p1) (own_a p3) (own_n q2))), .second, .val (.int (1 : Int32)), .val (.double (FP.i2d (own_j p5))), .second, .val (.long (own_p q2)), .second, .val (.long (own_p q4)), .second, .val (.long (own_min (own_p q2) (own_p q4))), .second, .val (.long (own_max (own_p q2) (own_p q4))), .second, .val (.double (LN.ln (LN.B (own_k p1)) (own_min (own_p q2) (own_p q4)) (FP.i2d (own_j p5)))), .second, .val (.double (LN.ln (LN.B (own_k p1)) (own_max (own_p q2) (own_p q4)) (FP.i2d (own_j p5)))), .second, .unset]) rfl ?_
    show Steps p.tables e below (T10.setTop (mkF m 157 #[.val (.int p1), .val (.long q2), .second, .val (.int p3), .val (.long q4), .second, .val (.int p5), .val (.int (own_k p1)), .val (.float (LN.B (own_k p1))), .val (.int (p3 &&& (7 : Int32))), .val (.long (own_a p3)), .second, .val (.long (own_n q2)), .second, .val (.double (LN.ln (LN.B (own_k p1)) (own_n q2) (FP.l2d (own_a p3)))), .second, .val (.long (own_N (own_k p1) (own_a p3) (own_n q2))), .second, .val (.int (1 : Int32)), .val (.double (FP.i2d (own_j p5))), .second, .val (.long (own_p q2)), .second, .val (.long (own_p q4)), .second, .val (.long (own_min (own_p q2) (own_p q4))), .second, .val (.long (own_max (own_p q2) (own_p q4))), .second, .val (.double (LN.ln (LN.B (own_k p1)) (own_min (own_p q2) (own_p q4)) (FP.i2d (own_j p5)))), .second, .val (.double (LN.ln (LN.B (own_k p1)) (own_max (own_p q2) (own_p q4)) (FP.i2d (own_j p5)))), .second, .unset] [])) _
    refine XS.dload X10.here hx rfl (hb hby at_157) rfl ?_
    show Steps p.tables e below (T10.setTop (mkF m 159 #[.val (.int p1), .val (.long q2), .second, .val (.int p3), .val (.long q4), .second, .val (.int p5), .val (.int (own_k p1)), .val (.float (LN.B (own_k p1))), .val (.int (p3 &&& (7 : Int32))), .val (.long (own_a p3)), .second, .val (.long (own_n q2)), .second, .val (.double (LN.ln (LN.B (own_k p1)) (own_n q2) (FP.l2d (own_a p3)))), .second, .val (.long (own_N (own_k p1) (own_a p3) (own_n q2))), .second, .val (.int (1 : Int32)), .val (.double (FP.i2d (own_j p5))), .second, .val (.long (own_p q2)), .second, .val (.long (own_p q4)), .second, .val (.long (own_min (own_p q2) (own_p q4))), .second, .val (.long (own_max (own_p q2) (own_p q4))), .second, .val (.double (LN.ln (LN.B (own_k p1)) (own_min (own_p q2) (own_p q4)) (FP.i2d (own_j p5)))), .second, .val (.double (LN.ln (LN.B (own_k p1)) (own_max (own_p q2) (own_p q4)) (FP.i2d (own_j p5)))), .second, .unset] [(.double (LN.ln (LN.B (own_k p1)) (own_min (own_p q2) (own_p q4)) (FP.i2d (own_j p5))))])) _
    refine XS.dload X10.here hx rfl (hb hby at_159) rfl ?_
    show Steps p.tables e below (T10.setTop (mkF m 161 #[.val (.int p1), .val (.long q2), .second, .val (.int p3), .val (.long q4), .second, .val (.int p5), .val (.int (own_k p1)), .val (.float (LN.B (own_k p1))), .val (.int (p3 &&& (7 : Int32))), .val (.long (own_a p3)), .second, .val (.long (own_n q2)), .second, .val (.double (LN.ln (LN.B (own_k p1)) (own_n q2) (FP.l2d (own_a p3)))), .second, .val (.long (own_N (own_k p1) (own_a p3) (own_n q2))), .second, .val (.int (1 : Int32)), .val (.double (FP.i2d (own_j p5))), .second, .val (.long (own_p q2)), .second, .val (.long (own_p q4)), .second, .val (.long (own_min (own_p q2) (own_p q4))), .second, .val (.long (own_max (own_p q2) (own_p q4))), .second, .val (.double (LN.ln (LN.B (own_k p1)) (own_min (own_p q2) (own_p q4)) (FP.i2d (own_j p5)))), .second, .val (.double (LN.ln (LN.B (own_k p1)) (own_max (own_p q2) (own_p q4)) (FP.i2d (own_j p5)))), .second, .unset] [(.double (LN.ln (LN.B (own_k p1)) (own_max (own_p q2) (own_p q4)) (FP.i2d (own_j p5)))), (.double (LN.ln (LN.B (own_k p1)) (own_min (own_p q2) (own_p q4)) (FP.i2d (own_j p5))))])) _
    refine XS.dcmpS X10.here hx rfl (v := (cmpValue (FP.dcmp (LN.ln (LN.B (own_k p1)) (own_min (own_p q2) (own_p q4)) (FP.i2d (own_j p5))) (LN.ln (LN.B (own_k p1)) (own_max (own_p q2) (own_p q4)) (FP.i2d (own_j p5)))) .g)) (hb hby at_161) rfl rfl ?_
    show Steps p.tables e below (T10.setTop (mkF m 162 #[.val (.int p1), .val (.long q2), .second, .val (.int p3), .val (.long q4), .second, .val (.int p5), .val (.int (own_k p1)), .val (.float (LN.B (own_k p1))), .val (.int (p3 &&& (7 : Int32))), .val (.long (own_a p3)), .second, .val (.long (own_n q2)), .second, .val (.double (LN.ln (LN.B (own_k p1)) (own_n q2) (FP.l2d (own_a p3)))), .second, .val (.long (own_N (own_k p1) (own_a p3) (own_n q2))), .second, .val (.int (1 : Int32)), .val (.double (FP.i2d (own_j p5))), .second, .val (.long (own_p q2)), .second, .val (.long (own_p q4)), .second, .val (.long (own_min (own_p q2) (own_p q4))), .second, .val (.long (own_max (own_p q2) (own_p q4))), .second, .val (.double (LN.ln (LN.B (own_k p1)) (own_min (own_p q2) (own_p q4)) (FP.i2d (own_j p5)))), .second, .val (.double (LN.ln (LN.B (own_k p1)) (own_max (own_p q2) (own_p q4)) (FP.i2d (own_j p5)))), .second, .unset] [(.int (cmpValue (FP.dcmp (LN.ln (LN.B (own_k p1)) (own_min (own_p q2) (own_p q4)) (FP.i2d (own_j p5))) (LN.ln (LN.B (own_k p1)) (own_max (own_p q2) (own_p q4)) (FP.i2d (own_j p5)))) .g))])) _
    refine XS.ifNo X10.here hx rfl (hb hby at_162) rfl ((if0 _ _).trans (flt (LN.mono hk hmm.1 hmm.2 (own_dj ej) hj : ¬ ((0 : Int32) < (cmpValue (FP.dcmp (LN.ln (LN.B (own_k p1)) (own_min (own_p q2) (own_p q4)) (FP.i2d (own_j p5))) (LN.ln (LN.B (own_k p1)) (own_max (own_p q2) (own_p q4)) (FP.i2d (own_j p5)))) .g)))).2.2.1) ?_
    show Steps p.tables e below (T10.setTop (mkF m 165 #[.val (.int p1), .val (.long q2), .second, .val (.int p3), .val (.long q4), .second, .val (.int p5), .val (.int (own_k p1)), .val (.float (LN.B (own_k p1))), .val (.int (p3 &&& (7 : Int32))), .val (.long (own_a p3)), .second, .val (.long (own_n q2)), .second, .val (.double (LN.ln (LN.B (own_k p1)) (own_n q2) (FP.l2d (own_a p3)))), .second, .val (.long (own_N (own_k p1) (own_a p3) (own_n q2))), .second, .val (.int (1 : Int32)), .val (.double (FP.i2d (own_j p5))), .second, .val (.long (own_p q2)), .second, .val (.long (own_p q4)), .second, .val (.long (own_min (own_p q2) (own_p q4))), .second, .val (.long (own_max (own_p q2) (own_p q4))), .second, .val (.double (LN.ln (LN.B (own_k p1)) (own_min (own_p q2) (own_p q4)) (FP.i2d (own_j p5)))), .second, .val (.double (LN.ln (LN.B (own_k p1)) (own_max (own_p q2) (own_p q4)) (FP.i2d (own_j p5)))), .second, .unset] [])) _
    refine XS.iconst X10.here hx rfl (hb hby at_165) ?_
    show Steps p.tables e below (T10.setTop (mkF m 166 #[.val (.int p1), .val (.long q2), .second, .val (.int p3), .val (.long q4), .second, .val (.int p5), .val (.int (own_k p1)), .val (.float (LN.B (own_k p1))), .val (.int (p3 &&& (7 : Int32))), .val (.long (own_a p3)), .second, .val (.long (own_n q2)), .second, .val (.double (LN.ln (LN.B (own_k p1)) (own_n q2) (FP.l2d (own_a p3)))), .second, .val (.long (own_N (own_k p1) (own_a p3) (own_n q2))), .second, .val (.int (1 : Int32)), .val (.double (FP.i2d (own_j p5))), .second, .val (.long (own_p q2)), .second, .val (.long (own_p q4)), .second, .val (.long (own_min (own_p q2) (own_p q4))), .second, .val (.long (own_max (own_p q2) (own_p q4))), .second, .val (.double (LN.ln (LN.B (own_k p1)) (own_min (own_p q2) (own_p q4)) (FP.i2d (own_j p5)))), .second, .val (.double (LN.ln (LN.B (own_k p1)) (own_max (own_p q2) (own_p q4)) (FP.i2d (own_j p5)))), .second, .unset] [(.int (1 : Int32))])) _
    refine XS.goto X10.here hx rfl (pc0 := 166) (pc' := 170) rfl (hb hby at_166) (by decide) (by decide) ?_
    show Steps p.tables e below (T10.setTop (mkF m 170 #[.val (.int p1), .val (.long q2), .second, .val (.int p3), .val (.long q4), .second, .val (.int p5), .val (.int (own_k p1)), .val (.float (LN.B (own_k p1))), .val (.int (p3 &&& (7 : Int32))), .val (.long (own_a p3)), .second, .val (.long (own_n q2)), .second, .val (.double (LN.ln (LN.B (own_k p1)) (own_n q2) (FP.l2d (own_a p3)))), .second, .val (.long (own_N (own_k p1) (own_a p3) (own_n q2))), .second, .val (.int (1 : Int32)), .val (.double (FP.i2d (own_j p5))), .second, .val (.long (own_p q2)), .second, .val (.long (own_p q4)), .second, .val (.long (own_min (own_p q2) (own_p q4))), .second, .val (.long (own_max (own_p q2) (own_p q4))), .second, .val (.double (LN.ln (LN.B (own_k p1)) (own_min (own_p q2) (own_p q4)) (FP.i2d (own_j p5)))), .second, .val (.double (LN.ln (LN.B (own_k p1)) (own_max (own_p q2) (own_p q4)) (FP.i2d (own_j p5)))), .second, .unset] [(.int (1 : Int32))])) _
    refine XS.istore X10.here hx rfl (hb hby at_170) rfl (l' := #[.val (.int p1), .val (.long q2), .second, .val (.int p3), .val (.long q4), .second, .val (.int p5), .val (.int (own_k p1)), .val (.float (LN.B (own_k p1))), .val (.int (p3 &&& (7 : Int32))), .val (.long (own_a p3)), .second, .val (.long (own_n q2)), .second, .val (.double (LN.ln (LN.B (own_k p1)) (own_n q2) (FP.l2d (own_a p3)))), .second, .val (.long (own_N (own_k p1) (own_a p3) (own_n q2))), .second, .val (.int (1 : Int32)), .val (.double (FP.i2d (own_j p5))), .second, .val (.long (own_p q2)), .second, .val (.long (own_p q4)), .second, .val (.long (own_min (own_p q2) (own_p q4))), .second, .val (.long (own_max (own_p q2) (own_p q4))), .second, .val (.double (LN.ln (LN.B (own_k p1)) (own_min (own_p q2) (own_p q4)) (FP.i2d (own_j p5)))), .second, .val (.double (LN.ln (LN.B (own_k p1)) (own_max (own_p q2) (own_p q4)) (FP.i2d (own_j p5)))), .second, .val (.int (1 : Int32))]) rfl ?_
    show Steps p.tables e below (T10.setTop (mkF m 172 #[.val (.int p1), .val (.long q2), .second, .val (.int p3), .val (.long q4), .second, .val (.int p5), .val (.int (own_k p1)), .val (.float (LN.B (own_k p1))), .val (.int (p3 &&& (7 : Int32))), .val (.long (own_a p3)), .second, .val (.long (own_n q2)), .second, .val (.double (LN.ln (LN.B (own_k p1)) (own_n q2) (FP.l2d (own_a p3)))), .second, .val (.long (own_N (own_k p1) (own_a p3) (own_n q2))), .second, .val (.int (1 : Int32)), .val (.double (FP.i2d (own_j p5))), .second, .val (.long (own_p q2)), .second, .val (.long (own_p q4)), .second, .val (.long (own_min (own_p q2) (own_p q4))), .second, .val (.long (own_max (own_p q2) (own_p q4))), .second, .val (.double (LN.ln (LN.B (own_k p1)) (own_min (own_p q2) (own_p q4)) (FP.i2d (own_j p5)))), .second, .val (.double (LN.ln (LN.B (own_k p1)) (own_max (own_p q2) (own_p q4)) (FP.i2d (own_j p5)))), .second, .val (.int (1 : Int32))] [])) _
    refine XS.iload X10.here hx rfl (hb hby at_172) rfl ?_
    show Steps p.tables e below (T10.setTop (mkF m 174 #[.val (.int p1), .val (.long q2), .second, .val (.int p3), .val (.long q4), .second, .val (.int p5), .val (.int (own_k p1)), .val (.float (LN.B (own_k p1))), .val (.int (p3 &&& (7 : Int32))), .val (.long (own_a p3)), .second, .val (.long (own_n q2)), .second, .val (.double (LN.ln (LN.B (own_k p1)) (own_n q2) (FP.l2d (own_a p3)))), .second, .val (.long (own_N (own_k p1) (own_a p3) (own_n q2))), .second, .val (.int (1 : Int32)), .val (.double (FP.i2d (own_j p5))), .second, .val (.long (own_p q2)), .second, .val (.long (own_p q4)), .second, .val (.long (own_min (own_p q2) (own_p q4))), .second, .val (.long (own_max (own_p q2) (own_p q4))), .second, .val (.double (LN.ln (LN.B (own_k p1)) (own_min (own_p q2) (own_p q4)) (FP.i2d (own_j p5)))), .second, .val (.double (LN.ln (LN.B (own_k p1)) (own_max (own_p q2) (own_p q4)) (FP.i2d (own_j p5)))), .second, .val (.int (1 : Int32))] [(.int (1 : Int32))])) _
    refine XS.ifNo X10.here hx rfl (hb hby at_174) rfl ((if0 _ _).trans (feq (by decide : ¬ ((1 : Int32) = (0 : Int32)))).1) ?_
    show Steps p.tables e below (T10.setTop (mkF m 177 #[.val (.int p1), .val (.long q2), .second, .val (.int p3), .val (.long q4), .second, .val (.int p5), .val (.int (own_k p1)), .val (.float (LN.B (own_k p1))), .val (.int (p3 &&& (7 : Int32))), .val (.long (own_a p3)), .second, .val (.long (own_n q2)), .second, .val (.double (LN.ln (LN.B (own_k p1)) (own_n q2) (FP.l2d (own_a p3)))), .second, .val (.long (own_N (own_k p1) (own_a p3) (own_n q2))), .second, .val (.int (1 : Int32)), .val (.double (FP.i2d (own_j p5))), .second, .val (.long (own_p q2)), .second, .val (.long (own_p q4)), .second, .val (.long (own_min (own_p q2) (own_p q4))), .second, .val (.long (own_max (own_p q2) (own_p q4))), .second, .val (.double (LN.ln (LN.B (own_k p1)) (own_min (own_p q2) (own_p q4)) (FP.i2d (own_j p5)))), .second, .val (.double (LN.ln (LN.B (own_k p1)) (own_max (own_p q2) (own_p q4)) (FP.i2d (own_j p5)))), .second, .val (.int (1 : Int32))] [])) _
    refine XS.iload X10.here hx rfl (hb hby at_177) rfl ?_
    show Steps p.tables e below (T10.setTop (mkF m 179 #[.val (.int p1), .val (.long q2), .second, .val (.int p3), .val (.long q4), .second, .val (.int p5), .val (.int (own_k p1)), .val (.float (LN.B (own_k p1))), .val (.int (p3 &&& (7 : Int32))), .val (.long (own_a p3)), .second, .val (.long (own_n q2)), .second, .val (.double (LN.ln (LN.B (own_k p1)) (own_n q2) (FP.l2d (own_a p3)))), .second, .val (.long (own_N (own_k p1) (own_a p3) (own_n q2))), .second, .val (.int (1 : Int32)), .val (.double (FP.i2d (own_j p5))), .second, .val (.long (own_p q2)), .second, .val (.long (own_p q4)), .second, .val (.long (own_min (own_p q2) (own_p q4))), .second, .val (.long (own_max (own_p q2) (own_p q4))), .second, .val (.double (LN.ln (LN.B (own_k p1)) (own_min (own_p q2) (own_p q4)) (FP.i2d (own_j p5)))), .second, .val (.double (LN.ln (LN.B (own_k p1)) (own_max (own_p q2) (own_p q4)) (FP.i2d (own_j p5)))), .second, .val (.int (1 : Int32))] [(.int (1 : Int32))])) _
    refine XS.ifNo X10.here hx rfl (hb hby at_179) rfl ((if0 _ _).trans (feq (by decide : ¬ ((1 : Int32) = (0 : Int32)))).1) ?_
    show Steps p.tables e below (T10.setTop (mkF m 182 #[.val (.int p1), .val (.long q2), .second, .val (.int p3), .val (.long q4), .second, .val (.int p5), .val (.int (own_k p1)), .val (.float (LN.B (own_k p1))), .val (.int (p3 &&& (7 : Int32))), .val (.long (own_a p3)), .second, .val (.long (own_n q2)), .second, .val (.double (LN.ln (LN.B (own_k p1)) (own_n q2) (FP.l2d (own_a p3)))), .second, .val (.long (own_N (own_k p1) (own_a p3) (own_n q2))), .second, .val (.int (1 : Int32)), .val (.double (FP.i2d (own_j p5))), .second, .val (.long (own_p q2)), .second, .val (.long (own_p q4)), .second, .val (.long (own_min (own_p q2) (own_p q4))), .second, .val (.long (own_max (own_p q2) (own_p q4))), .second, .val (.double (LN.ln (LN.B (own_k p1)) (own_min (own_p q2) (own_p q4)) (FP.i2d (own_j p5)))), .second, .val (.double (LN.ln (LN.B (own_k p1)) (own_max (own_p q2) (own_p q4)) (FP.i2d (own_j p5)))), .second, .val (.int (1 : Int32))] [])) _
    refine XS.iconst X10.here hx rfl (hb hby at_182) ?_
    show Steps p.tables e below (T10.setTop (mkF m 183 #[.val (.int p1), .val (.long q2), .second, .val (.int p3), .val (.long q4), .second, .val (.int p5), .val (.int (own_k p1)), .val (.float (LN.B (own_k p1))), .val (.int (p3 &&& (7 : Int32))), .val (.long (own_a p3)), .second, .val (.long (own_n q2)), .second, .val (.double (LN.ln (LN.B (own_k p1)) (own_n q2) (FP.l2d (own_a p3)))), .second, .val (.long (own_N (own_k p1) (own_a p3) (own_n q2))), .second, .val (.int (1 : Int32)), .val (.double (FP.i2d (own_j p5))), .second, .val (.long (own_p q2)), .second, .val (.long (own_p q4)), .second, .val (.long (own_min (own_p q2) (own_p q4))), .second, .val (.long (own_max (own_p q2) (own_p q4))), .second, .val (.double (LN.ln (LN.B (own_k p1)) (own_min (own_p q2) (own_p q4)) (FP.i2d (own_j p5)))), .second, .val (.double (LN.ln (LN.B (own_k p1)) (own_max (own_p q2) (own_p q4)) (FP.i2d (own_j p5)))), .second, .val (.int (1 : Int32))] [(.int (1 : Int32))])) _
    refine XS.goto X10.here hx rfl (pc0 := 183) (pc' := 187) rfl (hb hby at_183) (by decide) (by decide) ?_
    exact kt
  obtain ⟨fs, hr, hrun, hended, hW, hsame⟩ := X10.leave (v := some (.int (1 : Int32))) (fun h => by rw [Bd.returns] at h; cases h)
  refine ⟨_, _, pre0 _ ?_, hrun, hended, _, _, rfl, ?_, ⟨_, rfl⟩, hW, hsame.mono (by decide) (by decide)⟩
  · show Steps p.tables e below (s₁.setTop (mkF m 0 #[.val (.int p1), .val (.long q2), .second, .val (.int p3), .val (.long q4), .second, .val (.int p5), .unset, .unset, .unset, .unset, .unset, .unset, .unset, .unset, .unset, .unset, .unset, .unset, .unset, .unset, .unset, .unset, .unset, .unset, .unset, .unset, .unset, .unset, .unset, .unset, .unset, .unset, .unset] [])) _
    refine sg1 _ ?_
    refine st2 _ ?_
    refine sg3 _ ?_
    refine st4 _ ?_
    refine sg5 _ ?_
    refine st6 _ ?_
    refine sg7 _ ?_
    refine st8 _ ?_
    refine sg9 _ ?_
    refine st10 _ ?_
    refine sg11 _ ?_
    show Steps p.tables e below (T10.setTop (mkF m 187 #[.val (.int p1), .val (.long q2), .second, .val (.int p3), .val (.long q4), .second, .val (.int p5), .val (.int (own_k p1)), .val (.float (LN.B (own_k p1))), .val (.int (p3 &&& (7 : Int32))), .val (.long (own_a p3)), .second, .val (.long (own_n q2)), .second, .val (.double (LN.ln (LN.B (own_k p1)) (own_n q2) (FP.l2d (own_a p3)))), .second, .val (.long (own_N (own_k p1) (own_a p3) (own_n q2))), .second, .val (.int (1 : Int32)), .val (.double (FP.i2d (own_j p5))), .second, .val (.long (own_p q2)), .second, .val (.long (own_p q4)), .second, .val (.long (own_min (own_p q2) (own_p q4))), .second, .val (.long (own_max (own_p q2) (own_p q4))), .second, .val (.double (LN.ln (LN.B (own_k p1)) (own_min (own_p q2) (own_p q4)) (FP.i2d (own_j p5)))), .second, .val (.double (LN.ln (LN.B (own_k p1)) (own_max (own_p q2) (own_p q4)) (FP.i2d (own_j p5)))), .second, .val (.int (1 : Int32))] [(.int (1 : Int32))])) _
    exact retN X10 hx (t := .boolean) Bd.returns (by simp) (hb hby at_187) hr
  · show Q_rm0 Z p1 q2 p3 q4 p5 h0 n0 _ T10.heap _
    rw [c10_0]
    exact ⟨rfl, N10⟩
set_option maxRecDepth 65536 in
set_option maxHeartbeats 40000000 in
theorem comes_1 {Post : Tables → Env → Array Value → State → Outcome → State → Prop} (hpost : ∀ tb e args s v u, (limb_1_1.after args s (.returned v) u = true ∧ limb_1_2.after args s (.returned v) u = true ∧ True) → FrameEnd s (.returned v) u (Jvm.fieldLocs frame_1_writes args s ++ Jvm.arrayLocs frame_1_arrays args s ++ Jvm.staticLocs frame_1_statics s) 0 0 → Post tb e args s (.returned v) u) :
    ArmFor flags0 classFile x code maxLocals ret World_1 tables_1 room_1 Calls_1 rest_1 Pre_1 Post := by
  intro l hfl _ _ p e ha hc hk s m args below hf hA hF happ hP
  obtain ⟨hcalls, hrest, hpre⟩ := hP
  obtain ⟨-, -, -, hnamed, -, -, -, hat⟩ := (Spec.applies_iff hf).mp happ
  obtain ⟨hg, hn⟩ := and_e (Cond.before_iff.mp (show (Jvm.Cond.and given_1 narrow_1).before args s = true from hpre))
  obtain ⟨g1, g2⟩ := and_e hg
  obtain ⟨g3, g4⟩ := and_e g2
  obtain ⟨g5, g6⟩ := and_e g4
  obtain ⟨g7, g8⟩ := and_e g6
  obtain ⟨g9, g10⟩ := and_e g8
  obtain ⟨w0, w1, w2, w3, w4, rfl⟩ : ∃ w0 w1 w2 w3 w4 : Value, args = #[w0, w1, w2, w3, w4] := by
    have hs : args.size = 5 := by simpa [Cond.value, given_1] using g1
    obtain ⟨L⟩ := args
    match L, hs with
    | [w0, w1, w2, w3, w4], _ => exact ⟨w0, w1, w2, w3, w4, rfl⟩
  have hw := fun d (hd : d ∈ tables_1) => atoms_spec (ws := Jvm.Cond.code x code maxLocals ret :: tables_1) hat d (List.mem_cons_of_mem _ hd)
  have hfit : Fit s := fun {y c} hc i hi => by
    obtain ⟨ha, rfl⟩ := Array.getElem?_eq_some_iff.mp hc
    have q := List.all_eq_true.mp ((Array.all_eq_true_iff_forall_mem.mp hF) _ (Array.getElem_mem ha)) i (List.mem_range.mpr hi)
    simpa [Array.getElem?_eq_getElem hi] using q
  obtain ⟨i0, ei0⟩ := is_v g3
  obtain rfl : w0 = (.int i0) := Option.some.inj ei0
  obtain ⟨i1, ei1⟩ := isL_v g5
  obtain rfl : w1 = (.long i1) := Option.some.inj ei1
  obtain ⟨i2, ei2⟩ := is_v g7
  obtain rfl : w2 = (.int i2) := Option.some.inj ei2
  obtain ⟨i3, ei3⟩ := isL_v g9
  obtain rfl : w3 = (.long i3) := Option.some.inj ei3
  obtain ⟨i4, ei4⟩ := is_v g10
  obtain rfl : w4 = (.int i4) := Option.some.inj ei4
  obtain ⟨n, o, h1, h2, h3, _, L, rfl, ⟨rfl, N⟩, hq⟩ := rm0 l s _ hw tables_1 i0 i1 i2 i3 i4 s.heap s.heap.size (Nat.le_refl _)  p e ha hc hk s m _ below hf ((Spec.applies_iff_loose hf).mp happ).1 ⟨rfl, State.Warmed39.refl s, rfl⟩ trivial
  refine ⟨n, _, h1, h2, h3, hpost _ _ _ _ _ _ ⟨Cond.after_iff.mpr rfl, Cond.after_iff.mpr (eq_i res_at (Term.int_eval (1)) rfl), trivial⟩ ⟨hq.1, hq.2.1, (hq.2.2.sift fun y hy => Or.inr (N y hy)).mono (by decide) (by decide)⟩⟩
theorem main_1_1 : Claimed_1_1 := comes_1 fun _ _ _ _ _ _ h hF => ⟨h.1, hF⟩
theorem main_1_2 : Claimed_1_2 := comes_1 fun _ _ _ _ _ _ h hF => ⟨h.2.1, hF⟩
end Jvm.Pilot.@@N@@
namespace Jvm.Pilot.@@N@@
open Jvm Jvm.ClassFile Sem Op Lib Jvm.Free Jvm.Stand Jvm.Pilot.@@N@@.Jvm.D
/-! MADE BY PROGRAM (witnessworld.py) out of the Statement's table words and the real class files: 10 classes; the members and pool entries that the words name. The judged class is class 1, her method 1. -/
namespace start1
open Jvm.ClassFile
def u (s : String) : CpInfo := .utf8 (stringToUtf16 s)
/-- a pool by its gaps: so many unusable entries, then the entry; so many at the end -/
def gap : Nat → List CpInfo → List CpInfo
  | 0, r => r
  | n + 1, r => .unusable :: gap n r
def poolList (es : List (Nat × CpInfo)) (last : Nat) : List CpInfo := es.foldr (fun e r => gap e.1 (e.2 :: r)) (gap last [])
def pool (es : List (Nat × CpInfo)) (last : Nat) : Array CpInfo := ⟨poolList es last⟩
def fileOf (pool : Array CpInfo) (this : Nat) (attrs : Array Attribute := #[]) (ms : Array MethodInfo := #[]) (fl : Nat := 33) (sup : Nat := 0) (ifs : Array Nat := #[]) (fds : Array FieldInfo := #[]) : ClassFile where
  minorVersion := 0
  majorVersion := 65
  constantPool := pool
  accessFlags := fl
  thisClass := this
  superClass := sup
  interfaces := ifs
  fields := fds
  methods := ms
  attributes := attrs
def plain (name : String) (sup : Option ClassId) : Class where
  name := name
  kind := .ordinary
  loader := none
  accessFlags := 33
  super := sup
  interfaces := #[]
  cf := none
  fields := #[]
  methods := #[]
  instanceTypes := #[]
  staticTypes := #[]
  resolved := #[]
  callSites := []
  init := .initialized
  statics := none
  mirror := none

def pool0 : Array CpInfo := pool [(5, u "<init>"), (0, u "()V"), (1, .class_ 10), (1, u "java/lang/Object")] 113

def k0m0 : Method := { name := "<init>", desc := "()V", sig := { parameters := [], returnType := none }, accessFlags := 1, code := none }
/-- java/lang/Object -/
def k0 : Class := { plain "java/lang/Object" none with
  accessFlags := 33
  interfaces := #[]
  cf := some (fileOf pool0 8 #[] #[{ accessFlags := 1, nameIndex := 5, descriptorIndex := 6, attributes := #[] }] 33 0 #[] #[])
  fields := #[]
  methods := #[k0m0]
  instanceTypes := #[]
  staticTypes := #[]
  resolved := Array.replicate 124 none
  statics := none }

def pool1 : Array CpInfo := pool [(2, .class_ 4), (1, u "java/lang/Object"), (0, u "<init>"), (0, u "()V"), (0, .integer 2147483647), (0, .float 1098907648), (0, .long 524287), (1, .methodref 12 13), (0, .class_ 14), (0, .nameAndType 15 16), (0, u "com/example/saffron/saffron/Bm25f"), (0, u "lengthNorm"), (0, u "(FJD)D"), (0, .long 16), (3, .long 9223372036854775807), (1, .methodref 24 25), (0, .class_ 26), (0, .nameAndType 27 28), (0, u "java/lang/Math"), (0, u "min"), (0, u "(JJ)J"), (0, .methodref 24 30), (0, .nameAndType 31 28), (0, u "max"), (0, .class_ 33), (0, u "com/example/saffron/saffron/Bm25fLengthNormPinLaw"), (2, u "law"), (0, u "(IJIJI)Z")] 3

def k1m0 : Method := { name := "<init>", desc := "()V", sig := { parameters := [], returnType := none }, accessFlags := 2, code := none }
def k1c1 : Code := { maxStack := 6, maxLocals := 34, code := code, exceptionTable := #[], attributes := #[] }
def k1m1 : Method := { name := "law", desc := "(IJIJI)Z", sig := { parameters := [.int, .long, .int, .long, .int], returnType := some .boolean }, accessFlags := 9, code := some k1c1 }
/-- com/example/saffron/saffron/Bm25fLengthNormPinLaw -/
def k1 : Class := { plain "com/example/saffron/saffron/Bm25fLengthNormPinLaw" (some 0) with
  accessFlags := 49
  interfaces := #[]
  cf := some (fileOf pool1 32 #[] #[{ accessFlags := 2, nameIndex := 5, descriptorIndex := 6, attributes := #[] }, { accessFlags := 9, nameIndex := 36, descriptorIndex := 37, attributes := #[] }] 49 2 #[] #[])
  fields := #[]
  methods := #[k1m0, k1m1]
  instanceTypes := #[]
  staticTypes := #[]
  resolved := Array.replicate 41 none
  statics := none }

def pool2 : Array CpInfo := pool [(2, .class_ 4), (1, u "java/lang/Object"), (0, u "<init>"), (0, u "()V"), (28, .class_ 36), (0, u "com/example/saffron/saffron/Bm25f"), (0, u "DEFAULT_K1"), (0, u "F"), (2, u "DEFAULT_B"), (1, u "DEFAULT_WEIGHT"), (6, u "lengthNorm"), (0, u "(FJD)D")] 29

def k2m0 : Method := { name := "<init>", desc := "()V", sig := { parameters := [], returnType := none }, accessFlags := 2, code := none }
def k2c1 : Code := { maxStack := 6, maxLocals := 5, code := prog_1_method_3_code, exceptionTable := #[], attributes := #[] }
def k2m1 : Method := { name := "lengthNorm", desc := "(FJD)D", sig := { parameters := [.float, .long, .double], returnType := some .double }, accessFlags := 9, code := some k2c1 }
/-- com/example/saffron/saffron/Bm25f -/
def k2 : Class := { plain "com/example/saffron/saffron/Bm25f" (some 0) with
  accessFlags := 49
  interfaces := #[]
  cf := some (fileOf pool2 35 #[] #[{ accessFlags := 2, nameIndex := 5, descriptorIndex := 6, attributes := #[] }, { accessFlags := 9, nameIndex := 50, descriptorIndex := 51, attributes := #[] }] 49 2 #[] #[{ accessFlags := 25, nameIndex := 37, descriptorIndex := 38, attributes := #[] }, { accessFlags := 25, nameIndex := 41, descriptorIndex := 38, attributes := #[] }, { accessFlags := 25, nameIndex := 43, descriptorIndex := 38, attributes := #[] }])
  fields := #[{ name := "DEFAULT_K1", type := .float, accessFlags := 25, slot := 0, constantValue := 0 }, { name := "DEFAULT_B", type := .float, accessFlags := 25, slot := 1, constantValue := 0 }, { name := "DEFAULT_WEIGHT", type := .float, accessFlags := 25, slot := 2, constantValue := 0 }]
  methods := #[k2m0, k2m1]
  instanceTypes := #[]
  staticTypes := #[.float, .float, .float]
  resolved := Array.replicate 81 none
  statics := none }

def pool3 : Array CpInfo := pool [(1, .class_ 2), (0, u "java/lang/Math"), (1, .class_ 6), (1, u "java/lang/Object"), (0, u "<init>"), (0, u "()V"), (89, .class_ 100), (1, u "java/lang/Math$RandomNumberGeneratorHolder"), (20, u "(JJ)J"), (50, u "negativeZeroFloatBits"), (0, u "J"), (2, u "negativeZeroDoubleBits"), (21, u "max"), (2, u "min"), (43, u "$assertionsDisabled"), (0, u "Z"), (91, u "twoToTheDoubleScaleDown"), (0, u "D"), (4, u "twoToTheDoubleScaleUp"), (9, u "E"), (3, u "PI"), (2, u "TAU"), (2, u "DEGREES_TO_RADIANS"), (0, u "RADIANS_TO_DEGREES")] 94

def k3m0 : Method := { name := "<init>", desc := "()V", sig := { parameters := [], returnType := none }, accessFlags := 2, code := none }
def k3c1 : Code := { maxStack := 4, maxLocals := 4, code := jdk_29_method_66_code, exceptionTable := #[], attributes := #[] }
def k3m1 : Method := { name := "max", desc := "(JJ)J", sig := { parameters := [.long, .long], returnType := some .long }, accessFlags := 9, code := some k3c1 }
def k3c2 : Code := { maxStack := 4, maxLocals := 4, code := jdk_29_method_70_code, exceptionTable := #[], attributes := #[] }
def k3m2 : Method := { name := "min", desc := "(JJ)J", sig := { parameters := [.long, .long], returnType := some .long }, accessFlags := 9, code := some k3c2 }
/-- java/lang/Math -/
def k3 : Class := { plain "java/lang/Math" (some 0) with
  accessFlags := 49
  interfaces := #[]
  cf := some (fileOf pool3 1 #[.nestMembers #[98]] #[{ accessFlags := 2, nameIndex := 7, descriptorIndex := 8, attributes := #[] }, { accessFlags := 9, nameIndex := 198, descriptorIndex := 121, attributes := #[] }, { accessFlags := 9, nameIndex := 201, descriptorIndex := 121, attributes := #[] }] 49 4 #[] #[{ accessFlags := 25, nameIndex := 354, descriptorIndex := 339, attributes := #[] }, { accessFlags := 25, nameIndex := 358, descriptorIndex := 339, attributes := #[] }, { accessFlags := 25, nameIndex := 361, descriptorIndex := 339, attributes := #[] }, { accessFlags := 26, nameIndex := 364, descriptorIndex := 339, attributes := #[] }, { accessFlags := 26, nameIndex := 365, descriptorIndex := 339, attributes := #[] }, { accessFlags := 26, nameIndex := 172, descriptorIndex := 173, attributes := #[] }, { accessFlags := 26, nameIndex := 176, descriptorIndex := 173, attributes := #[] }, { accessFlags := 8, nameIndex := 344, descriptorIndex := 339, attributes := #[] }, { accessFlags := 8, nameIndex := 338, descriptorIndex := 339, attributes := #[] }, { accessFlags := 4120, nameIndex := 245, descriptorIndex := 246, attributes := #[] }])
  fields := #[{ name := "E", type := .double, accessFlags := 25, slot := 0, constantValue := 0 }, { name := "PI", type := .double, accessFlags := 25, slot := 1, constantValue := 0 }, { name := "TAU", type := .double, accessFlags := 25, slot := 2, constantValue := 0 }, { name := "DEGREES_TO_RADIANS", type := .double, accessFlags := 26, slot := 3, constantValue := 0 }, { name := "RADIANS_TO_DEGREES", type := .double, accessFlags := 26, slot := 4, constantValue := 0 }, { name := "negativeZeroFloatBits", type := .long, accessFlags := 26, slot := 5, constantValue := 0 }, { name := "negativeZeroDoubleBits", type := .long, accessFlags := 26, slot := 6, constantValue := 0 }, { name := "twoToTheDoubleScaleUp", type := .double, accessFlags := 8, slot := 7, constantValue := 0 }, { name := "twoToTheDoubleScaleDown", type := .double, accessFlags := 8, slot := 8, constantValue := 0 }, { name := "$assertionsDisabled", type := .boolean, accessFlags := 4120, slot := 9, constantValue := 0 }]
  methods := #[k3m0, k3m1, k3m2]
  instanceTypes := #[]
  staticTypes := #[.double, .double, .double, .double, .double, .long, .long, .double, .double, .boolean]
  resolved := Array.replicate 460 none
  statics := none }

def pool4 : Array CpInfo := pool [(1, u "java/lang/Cloneable"), (0, .class_ 1), (0, u "java/lang/Object"), (0, .class_ 3)] 3

/-- java/lang/Cloneable -/
def k4 : Class := { plain "java/lang/Cloneable" (some 0) with
  accessFlags := 1537
  interfaces := #[]
  cf := some (fileOf pool4 2 #[] #[] 1537 4 #[] #[])
  fields := #[]
  methods := #[]
  instanceTypes := #[]
  staticTypes := #[]
  resolved := Array.replicate 8 none
  statics := none }

def pool5 : Array CpInfo := pool [(1, u "java/io/Serializable"), (0, .class_ 1), (0, u "java/lang/Object"), (0, .class_ 3)] 3

/-- java/io/Serializable -/
def k5 : Class := { plain "java/io/Serializable" (some 0) with
  accessFlags := 1537
  interfaces := #[]
  cf := some (fileOf pool5 2 #[] #[] 1537 4 #[] #[])
  fields := #[]
  methods := #[]
  instanceTypes := #[]
  staticTypes := #[]
  resolved := Array.replicate 8 none
  statics := none }

/-- the primitive byte -/
def k6 : Class := { plain "byte" none with kind := .primitive 'B', accessFlags := 0x411 }
/-- [B -/
def k7 : Class := { plain "[B" (some 0) with kind := .array 6 .byte, interfaces := #[4, 5], accessFlags := 1041 }

/-- the primitive int -/
def k8 : Class := { plain "int" none with kind := .primitive 'I', accessFlags := 0x411 }
/-- [I -/
def k9 : Class := { plain "[I" (some 0) with kind := .array 8 .int, interfaces := #[4, 5], accessFlags := 1041 }

def heap : Heap := #[]
def classes : Array Class := #[k0, k1, k2, k3, k4, k5, k6, k7, k8, k9]
def interned : List (Array UInt16 × Addr) := []
def slotsUsed : Nat := 0
def theMethod : MethodId := ⟨1, 1⟩
def args0 : Array Value := #[.int 5, .long 7, .int 5, .long 7, .int 5]
def aboutOver (below : List Frame) : State where
  vm := { classes := classes, interned := interned.toArray }
  heap := heap
  slotsUsed := slotsUsed
  threads := #[{ frames := .invoking theMethod args0 :: below }]
def below0 : List Frame := [.native { method := ⟨0, 0⟩, args := #[] }]
def about1 : State := aboutOver below0
def p0 : Program := .bare "" "" ""
def e0 : Env := launch0.env 0 0 0
theorem w_frames : about1.frames = Frame.invoking theMethod args0 :: below0 := rfl
set_option maxRecDepth 65536 in
theorem w_args : argsFit about1.vm theMethod args0 = true := by decide +kernel
set_option maxRecDepth 65536 in
theorem w_heap : heapFits about1 = true := by decide +kernel
set_option maxRecDepth 65536 in
theorem w_runnable : about1.curStatus? = some .runnable := by decide +kernel
set_option maxRecDepth 65536 in
theorem w_alone : about1.alone = true := by decide +kernel
set_option maxRecDepth 65536 in
theorem w_named : about1.methodNamed? x = some theMethod := by decide +kernel
set_option maxRecDepth 65536 in
theorem w_hears : about1.hears theMethod below0 = true := by decide +kernel
set_option maxRecDepth 65536 in
theorem w_ripe : about1.ripe theMethod args0 below0 = true := by decide +kernel
theorem w_running : about1.status = .running := rfl
set_option maxRecDepth 65536 in
theorem w_room : about1.hasRoom e0.platform room_1 = true :=
  launch0.hasRoom_least _ room_1 (by decide +kernel) (by decide +kernel) (by decide +kernel) (by decide +kernel) (by decide +kernel) (by decide +kernel)
theorem allAtoms_all (ts : List Jvm.Cond) (a : Array Jvm.Value) (st : Jvm.State) : (allAtoms ts).before a st = ts.all (fun c => c.before a st) := by
  induction ts with
  | nil => rfl
  | cons c t ih =>
    show (Jvm.Cond.and c (allAtoms t)).before a st = _
    rw [Jvm.Cond.before_and, ih, List.all_cons]
def words1 : List Jvm.Cond := Jvm.Cond.code x code maxLocals ret :: tables_1
/-- a 'code' word, met by the world's own term for the bytes: nothing is compared byte by byte -/
theorem code_word {y : MethodName} {bytes : ByteArray} {mx : Nat} {rt : Option FieldType} {a : Array Value} {s : State} {m : MethodId} {meth : Method} {c : Code} (h1 : s.methodNamed? y = some m) (h2 : s.vm.method? m = some meth) (h3 : meth.code = some c) (h4 : c.code = bytes)
    (h5 : (c.maxLocals == mx && c.exceptionTable.isEmpty && decide (c.maxStack ≤ mostOperands) && decide (meth.sig.returnType = rt) && !meth.locks && decide (parseMethodDescriptor y.desc = some meth.sig)) = true) : (Jvm.Cond.code y bytes mx rt).before a s = true := by
  simp only [Bool.and_eq_true, beq_iff_eq, Bool.not_eq_true', decide_eq_true_eq] at h5
  obtain ⟨⟨⟨⟨⟨g1, g2⟩, g3⟩, g4⟩, g5⟩, g6⟩ := h5
  simp [Cond.before, Cond.holds, Cond.value, h1, h2, h3, h4, g1, g2, g3, g4, g5, g6]
def isCode : Jvm.Cond → Bool
  | .code _ _ _ _ => true
  | _ => false
theorem all_split {L : List Jvm.Cond} {P : Jvm.Cond → Bool} (h1 : L.all (fun c => isCode c || P c) = true) (h2 : ∀ c ∈ L.filter isCode, P c = true) : L.all P = true := by
  refine List.all_eq_true.mpr fun c hc => ?_
  have h := List.all_eq_true.mp h1 c hc
  rcases Bool.eq_false_or_eq_true (isCode c) with hi | hi
  · exact h2 c (List.mem_filter.mpr ⟨hc, hi⟩)
  · simpa [hi] using h
set_option maxRecDepth 65536 in
theorem w_c0 : (Jvm.Cond.code x code maxLocals ret).before args0 about1 = true := code_word (m := ⟨1, 1⟩) (meth := k1m1) (c := k1c1) (by decide +kernel) rfl rfl rfl (by decide +kernel)
set_option maxRecDepth 65536 in
theorem w_c1 : (Jvm.Cond.code ({ cls := "com/example/saffron/saffron/Bm25f", name := "lengthNorm", desc := "(FJD)D" } : Jvm.MethodName) prog_1_method_3_code (5 : Nat) (Option.some Jvm.ClassFile.FieldType.double)).before args0 about1 = true := code_word (m := ⟨2, 1⟩) (meth := k2m1) (c := k2c1) (by decide +kernel) rfl rfl rfl (by decide +kernel)
set_option maxRecDepth 65536 in
theorem w_c2 : (Jvm.Cond.code ({ cls := "java/lang/Math", name := "min", desc := "(JJ)J" } : Jvm.MethodName) jdk_29_method_70_code (4 : Nat) (Option.some Jvm.ClassFile.FieldType.long)).before args0 about1 = true := code_word (m := ⟨3, 2⟩) (meth := k3m2) (c := k3c2) (by decide +kernel) rfl rfl rfl (by decide +kernel)
set_option maxRecDepth 65536 in
theorem w_c3 : (Jvm.Cond.code ({ cls := "java/lang/Math", name := "max", desc := "(JJ)J" } : Jvm.MethodName) jdk_29_method_66_code (4 : Nat) (Option.some Jvm.ClassFile.FieldType.long)).before args0 about1 = true := code_word (m := ⟨3, 1⟩) (meth := k3m1) (c := k3c1) (by decide +kernel) rfl rfl rfl (by decide +kernel)
def codes1 : List Jvm.Cond := [Jvm.Cond.code x code maxLocals ret, Jvm.Cond.code ({ cls := "com/example/saffron/saffron/Bm25f", name := "lengthNorm", desc := "(FJD)D" } : Jvm.MethodName) prog_1_method_3_code (5 : Nat) (Option.some Jvm.ClassFile.FieldType.double), Jvm.Cond.code ({ cls := "java/lang/Math", name := "min", desc := "(JJ)J" } : Jvm.MethodName) jdk_29_method_70_code (4 : Nat) (Option.some Jvm.ClassFile.FieldType.long), Jvm.Cond.code ({ cls := "java/lang/Math", name := "max", desc := "(JJ)J" } : Jvm.MethodName) jdk_29_method_66_code (4 : Nat) (Option.some Jvm.ClassFile.FieldType.long)]
set_option maxRecDepth 65536 in
theorem codes_eq : words1.filter isCode = codes1 := rfl
theorem w_codes : ∀ c ∈ words1.filter isCode, c.before args0 about1 = true := by
  rw [codes_eq]
  intro c hc
  simp only [codes1, List.mem_cons, List.not_mem_nil, or_false] at hc
  rcases hc with rfl | rfl | rfl | rfl
  · exact w_c0
  · exact w_c1
  · exact w_c2
  · exact w_c3
set_option maxRecDepth 65536 in
theorem w_t1 : words1.all (fun c => isCode c || c.before args0 about1) = true := by decide +kernel
theorem w_tables : (allAtoms (Jvm.Cond.code x code maxLocals ret :: tables_1)).before args0 about1 = true := by
  rw [allAtoms_all]
  show words1.all (fun c => c.before args0 about1) = true
  refine all_split ?_ w_codes
  rw [w_t1]
set_option maxRecDepth 65536 in
theorem w_case : (Jvm.Cond.and given_1 narrow_1).before args0 about1 = true := by decide +kernel
theorem w_applies : (headSpec (Jvm.Cond.code x code maxLocals ret :: tables_1) room_1).applies x e0.platform about1 = true :=
  (Spec.applies_iff w_frames).mpr ⟨w_running, w_runnable, w_alone, w_named, w_hears, w_ripe, w_room, w_tables⟩
theorem atStart : AtStart classFile x code maxLocals ret World_1 tables_1 room_1 Calls_1 rest_1 Pre_1 launch0 p0 e0 about1 theMethod args0 below0 :=
  ⟨lists_1, trivial, launch0.admits_env _ _ _, launch0.least_env, fairChoices_fair.cas, fairChoices_fair.clock, w_frames, w_args, w_heap, w_applies, trivial, trivial, w_case⟩
end start1
theorem witness_1 : WitnessClaimed_1 := ⟨start1.p0, start1.e0, start1.about1, start1.theMethod, start1.args0, start1.below0, start1.atStart⟩
end Jvm.Pilot.@@N@@
