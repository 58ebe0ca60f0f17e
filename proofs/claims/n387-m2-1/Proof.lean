import JvmDerived
import JvmDerived.Pilot.@@N@@Statement
import JvmDerived.Pilot.@@N@@Code
set_option linter.unusedVariables false
set_option linter.unusedSimpArgs false
namespace Jvm.RoadKit
open Sem ClassFile Op Lib Jvm.Stand Jvm.Free Jvm.LawKit
section New
variable {p : Program} {l : Launch} {e : Env} {R : Room} {s : State} {m : MethodId} {args : Array Value} {below : List Frame} {meth : Method} {c : Code} {T : State} {locs : List Loc} {cells slots : Nat}
theorem retI (X : Stand p l e R s m args below meth c T locs cells slots) (hx : p.tables.exec = Jvm.exec) {pc : Nat} {Ls : Array Slot} {z : Int32} {rest : List Value} (hret : meth.sig.returnType = some .int) (hd : decode c.code pc = .ok (.ireturn, 1)) {fs : List Frame}
    (hl : ∀ (f : JFrame) (acts : List Action), f.method = m → f.locked = none → f.entered = [] → (doReturn e (T.setTop f) acts (some (.int z))).1 = T.setFrames fs) : Steps p.tables e below (T.setTop (mkF m pc Ls (.int z :: rest))) (T.setFrames fs) := by
  have hm' : T.vm.method? m = some meth := X.method'
  have hn : narrow .int (.int z) = .int z := rfl
  show Steps p.tables e below (T.setTop { method := m, pc := pc, locals := Ls, stack := _ :: rest, locked := none }) _
  jvm_step X.here [X.here.top, hx, hd, hm', hret, hn]
  first | (intro acts; rw [hl _ acts rfl rfl rfl]) | rw [hl _ _ rfl rfl rfl]
  exact Steps.refl _
end New
end Jvm.RoadKit
namespace Jvm.Pilot.@@N@@.FV
open Jvm.FP.Core
/-- the datum is `i * 2^e` (a zero of either sign is 0) -/
def Val (i e : Int) : Datum → Prop
  | .fin s c q => signed s c * ((2 ^ (q - e).toNat : Nat) : Int) = i * ((2 ^ (e - q).toNat : Nat) : Int)
  | _ => False
theorem p2 (n : Nat) : (0 : Int) < ((2 ^ n : Nat) : Int) := by have := Nat.two_pow_pos n; omega
theorem p2ne (n : Nat) : ((2 ^ n : Nat) : Int) ≠ 0 := by have := p2 n; omega
theorem p2add (a b : Nat) : ((2 ^ (a + b) : Nat) : Int) = ((2 ^ a : Nat) : Int) * ((2 ^ b : Nat) : Int) := by rw [Nat.pow_add, Int.natCast_mul]
theorem units_int (s : Bool) (c : Nat) (q m : Int) : signed s (inUnits c q m) = signed s c * ((2 ^ (q - m).toNat : Nat) : Int) := by
  unfold inUnits; rw [signed_mul]
theorem val_iff {i e m : Int} {s : Bool} {c : Nat} {q : Int} (h1 : m ≤ q) (h2 : m ≤ e) :
    Val i e (.fin s c q) ↔ signed s c * ((2 ^ (q - m).toNat : Nat) : Int) = i * ((2 ^ (e - m).toNat : Nat) : Int) := by
  show signed s c * ((2 ^ (q - e).toNat : Nat) : Int) = i * ((2 ^ (e - q).toNat : Nat) : Int) ↔ _
  by_cases h : e ≤ q
  · rw [show (e - q).toNat = 0 by omega, show (q - m).toNat = (q - e).toNat + (e - m).toNat by omega, p2add, ← Int.mul_assoc]
    constructor
    · intro h3; rw [h3]; simp
    · intro h3; have := Int.eq_of_mul_eq_mul_right (p2ne _) h3; rw [this]; simp
  · rw [show (q - e).toNat = 0 by omega, show (e - m).toNat = (e - q).toNat + (q - m).toNat by omega, p2add, ← Int.mul_assoc]
    constructor
    · intro h3; rw [← h3]; simp
    · intro h3; have := Int.eq_of_mul_eq_mul_right (p2ne _) h3; rw [← this]; simp
theorem val_fin {i e : Int} {d : Datum} (h : Val i e d) : ∃ s c q, d = .fin s c q := by
  cases d with
  | nan => exact h.elim
  | inf => exact h.elim
  | fin s c q => exact ⟨s, c, q, rfl⟩
theorem val_ne_nan {i e : Int} {d : Datum} (h : Val i e d) : d ≠ .nan := by
  obtain ⟨s, c, q, rfl⟩ := val_fin h; exact Datum.noConfusion
theorem val_abs {i e : Int} {s : Bool} {c : Nat} {q : Int} (h : Val i e (.fin s c q)) : c * 2 ^ (q - e).toNat = i.natAbs * 2 ^ (e - q).toNat := by
  have := congrArg Int.natAbs (show signed s c * ((2 ^ (q - e).toNat : Nat) : Int) = i * ((2 ^ (e - q).toNat : Nat) : Int) from h)
  rw [Int.natAbs_mul, Int.natAbs_mul, natAbs_signed, Int.natAbs_natCast, Int.natAbs_natCast] at this
  exact this
theorem val_zero {i e : Int} {s : Bool} {c : Nat} {q : Int} (h : Val i e (.fin s c q)) : c = 0 ↔ i = 0 := by
  have h1 := val_abs h
  have p1 := Nat.two_pow_pos (q - e).toNat
  have p2 := Nat.two_pow_pos (e - q).toNat
  constructor
  · rintro rfl
    rw [Nat.zero_mul] at h1
    have := Nat.mul_eq_zero.mp h1.symm
    omega
  · rintro rfl
    rw [show (0 : Int).natAbs = 0 from rfl, Nat.zero_mul] at h1
    have := Nat.mul_eq_zero.mp h1
    omega
theorem val_sign {i e : Int} {s : Bool} {c : Nat} {q : Int} (h : Val i e (.fin s c q)) (hi : i ≠ 0) : s = decide (i < 0) := by
  have h' : signed s c * ((2 ^ (q - e).toNat : Nat) : Int) = i * ((2 ^ (e - q).toNat : Nat) : Int) := h
  have hc : 0 < c := by have := val_zero h; omega
  have a1 := p2 (q - e).toNat
  have a2 := p2 (e - q).toNat
  have h1 : decide (signed s c < 0) = s := signed_lt_zero s hc
  rw [← h1, decide_eq_decide]
  constructor
  · intro hlt
    have := Int.mul_neg_of_neg_of_pos hlt a1
    rw [h'] at this
    exact Int.lt_of_not_ge fun hge => by have := Int.mul_nonneg hge (Int.le_of_lt a2); omega
  · intro hlt
    have := Int.mul_neg_of_neg_of_pos hlt a2
    rw [← h'] at this
    exact Int.lt_of_not_ge fun hge => by have := Int.mul_nonneg hge (Int.le_of_lt a1); omega
theorem val_signed {i e : Int} {s : Bool} {c : Nat} {q : Int} (h : Val i e (.fin s c q)) : signed s i.natAbs = i := by
  by_cases hi : i = 0
  · rw [hi]; exact signed_zero s
  · rw [val_sign h hi]; unfold signed
    by_cases h : i < 0 <;> simp [h] <;> omega
theorem val_whole {i : Int} {d : Datum} : Val i 0 d ↔ Whole i d := by
  cases d with
  | nan => exact Iff.rfl
  | inf => exact Iff.rfl
  | fin s c q =>
    show signed s c * ((2 ^ (q - 0).toNat : Nat) : Int) = i * ((2 ^ (0 - q).toNat : Nat) : Int) ↔ signed s (c * 2 ^ q.toNat) = i * ((2 ^ (-q).toNat : Nat) : Int)
    rw [signed_mul, show (q - 0).toNat = q.toNat by omega, show (0 - q).toNat = (-q).toNat by omega]
theorem val_shift {i e : Int} {d : Datum} (k : Nat) : Val i e d ↔ Val (i * ((2 ^ k : Nat) : Int)) (e - k) d := by
  cases d with
  | nan => exact Iff.rfl
  | inf => exact Iff.rfl
  | fin s c q =>
    rw [val_iff (m := min q (e - k)) (by omega) (by omega), val_iff (m := min q (e - k)) (by omega) (by omega),
      show (e - min q (e - k)).toNat = k + (e - k - min q (e - k)).toNat by omega, p2add, Int.mul_assoc]
theorem val_zero_any {e e' : Int} {d : Datum} (h : Val 0 e d) : Val 0 e' d := by
  obtain ⟨s, c, q, rfl⟩ := val_fin h
  have := (val_zero h).mpr rfl
  subst this
  show signed s 0 * _ = 0 * _
  rw [signed_zero]; simp
theorem val_ofInt (i : Int) : Val i 0 (ofInt i) := val_whole.mpr (whole_ofInt i)
theorem val_sum {i j e : Int} {x y : Datum} (hx : Val i e x) (hy : Val j e y) : Val (i + j) e (exactSum x y) := by
  obtain ⟨s, c, q, rfl⟩ := val_fin hx
  obtain ⟨t, d, r, rfl⟩ := val_fin hy
  rw [val_iff (m := min (min q r) e) (by omega) (by omega)] at hx hy
  show Val (i + j) e (.fin (sumSign s t (sumUnits s c q t d r (min q r))) (sumUnits s c q t d r (min q r)).natAbs (min q r))
  rw [val_iff (m := min (min q r) e) (by omega) (by omega), signed_sumSign]
  unfold sumUnits
  rw [units_int, units_int, Int.add_mul, Int.add_mul, Int.mul_assoc, Int.mul_assoc, ← p2add, ← p2add,
    show (q - min q r).toNat + (min q r - min (min q r) e).toNat = (q - min (min q r) e).toNat by omega,
    show (r - min q r).toNat + (min q r - min (min q r) e).toNat = (r - min (min q r) e).toNat by omega, hx, hy]
theorem val_neg {i e : Int} {x : Datum} (hx : Val i e x) : Val (-i) e (negate x) := by
  obtain ⟨s, c, q, rfl⟩ := val_fin hx
  have h : signed s c * ((2 ^ (q - e).toNat : Nat) : Int) = i * ((2 ^ (e - q).toNat : Nat) : Int) := hx
  show signed (!s) c * ((2 ^ (q - e).toNat : Nat) : Int) = -i * ((2 ^ (e - q).toNat : Nat) : Int)
  rw [signed_not, Int.neg_mul, Int.neg_mul, h]
theorem val_prod {i j e g : Int} {x y : Datum} (hx : Val i e x) (hy : Val j g y) : Val (i * j) (e + g) (exactProduct x y) := by
  obtain ⟨s, c, q, rfl⟩ := val_fin hx
  obtain ⟨t, d, r, rfl⟩ := val_fin hy
  rw [val_iff (m := min q e) (by omega) (by omega)] at hx
  rw [val_iff (m := min r g) (by omega) (by omega)] at hy
  show Val (i * j) (e + g) (.fin (s != t) (c * d) (q + r))
  rw [val_iff (m := min q e + min r g) (by omega) (by omega), signed_xor,
    show (q + r - (min q e + min r g)).toNat = (q - min q e).toNat + (r - min r g).toNat by omega,
    show (e + g - (min q e + min r g)).toNat = (e - min q e).toNat + (g - min r g).toNat by omega, p2add, p2add]
  calc signed s c * signed t d * (((2 ^ (q - min q e).toNat : Nat) : Int) * ((2 ^ (r - min r g).toNat : Nat) : Int))
      = (signed s c * ((2 ^ (q - min q e).toNat : Nat) : Int)) * (signed t d * ((2 ^ (r - min r g).toNat : Nat) : Int)) := by ac_rfl
    _ = _ := by rw [hx, hy]; ac_rfl
/-- a number of at most p digits, its exponent in range, rounds to itself -/
theorem val_round {f : Fmt} (hf : Good f) {i e : Int} {x : Datum} (hx : Val i e x) (hi : i.natAbs < 2 ^ f.p) (h1 : f.qmin ≤ e) (h2 : e ≤ f.qmax) : Val i e (round f x) := by
  obtain ⟨s, c, q, rfl⟩ := val_fin hx
  have ha := val_abs hx
  have hs := val_signed hx
  have e1 : round f (.fin s c q) = round f (.fin s i.natAbs e) := roundRatio_congr (by decide) (by decide) (by simpa using ha)
  obtain ⟨c', q', h3, h4⟩ := round_exact hf s hi h1 h2
  have hfit := round_fits hf (.fin s i.natAbs e)
  rw [e1]
  rw [h3] at hfit ⊢
  rw [val_iff (m := f.qmin) hfit.2.1 h1, ← units_int, h4, units_int, hs]
theorem val_order {i j e : Int} {x y : Datum} (hx : Val i e x) (hy : Val j e y) : order x y = some (compare i j) := by
  obtain ⟨s, c, q, rfl⟩ := val_fin hx
  obtain ⟨t, d, r, rfl⟩ := val_fin hy
  rw [val_iff (m := min (min q r) e) (by omega) (by omega)] at hx hy
  show some (compare (signed s (inUnits c q (min q r))) (signed t (inUnits d r (min q r)))) = _
  rw [← compare_mul_pos (signed s _) _ _ (p2 (min q r - min (min q r) e).toNat), units_int, units_int, Int.mul_assoc, Int.mul_assoc, ← p2add, ← p2add,
    show (q - min q r).toNat + (min q r - min (min q r) e).toNat = (q - min (min q r) e).toNat by omega,
    show (r - min q r).toNat + (min q r - min (min q r) e).toNat = (r - min (min q r) e).toNat by omega, hx, hy, compare_mul_pos _ _ _ (p2 _)]
theorem scale_eq {X Y P N t : Nat} (h : X * 2 ^ (P + t) = Y * 2 ^ (N + t)) : X * 2 ^ P = Y * 2 ^ N := by
  rw [Nat.pow_add, Nat.pow_add, ← Nat.mul_assoc, ← Nat.mul_assoc] at h
  exact Nat.eq_of_mul_eq_mul_right (Nat.two_pow_pos t) h
theorem ratio_cross {c d n m : Nat} {q r e g : Int} (hx : c * 2 ^ (q - e).toNat = n * 2 ^ (e - q).toNat) (hy : d * 2 ^ (r - g).toNat = m * 2 ^ (g - r).toNat) :
    c * m * 2 ^ ((q - r) - (e - g)).toNat = n * d * 2 ^ ((e - g) - (q - r)).toNat := by
  have e1 : c * m * 2 ^ ((q - e).toNat + (g - r).toNat) = n * d * 2 ^ ((e - q).toNat + (r - g).toNat) := by
    rw [Nat.pow_add, Nat.pow_add]
    calc c * m * (2 ^ (q - e).toNat * 2 ^ (g - r).toNat) = (c * 2 ^ (q - e).toNat) * (m * 2 ^ (g - r).toNat) := by ac_rfl
      _ = (n * 2 ^ (e - q).toNat) * (d * 2 ^ (r - g).toNat) := by rw [hx, hy]
      _ = _ := by ac_rfl
  have k : ((q - e).toNat : Int) + (g - r).toNat - ((e - q).toNat + (r - g).toNat) = (q - r) - (e - g) := by omega
  refine scale_eq (t := min ((q - e).toNat + (g - r).toNat) ((e - q).toNat + (r - g).toNat)) ?_
  rw [show ((q - r) - (e - g)).toNat + min ((q - e).toNat + (g - r).toNat) ((e - q).toNat + (r - g).toNat) = (q - e).toNat + (g - r).toNat by omega,
    show ((e - g) - (q - r)).toNat + min ((q - e).toNat + (g - r).toNat) ((e - q).toNat + (r - g).toNat) = (e - q).toNat + (r - g).toNat by omega]
  exact e1
/-- a quotient is the rounding of the ratio of the two values -/
theorem quot_ratio {f : Fmt} {s t : Bool} {c d : Nat} {q r i j e g : Int} (hx : Val i e (.fin s c q)) (hy : Val j g (.fin t d r)) (hj : j ≠ 0) :
    quotient f (.fin s c q) (.fin t d r) = roundRatio f (s != t) i.natAbs j.natAbs (e - g) := by
  have hd : d ≠ 0 := fun z => hj ((val_zero hy).mp z)
  show (if d = 0 then _ else roundRatio f (s != t) c d (q - r)) = _
  rw [if_neg hd]
  exact roundRatio_congr (by omega) (by omega) (ratio_cross (val_abs hx) (val_abs hy))
theorem val_quot {f : Fmt} (hf : Good f) {i j k e g : Int} {x y : Datum} (hx : Val i e x) (hy : Val j g y) (hj : j ≠ 0) (hk : i = k * j) (hb : k.natAbs < 2 ^ f.p) (h1 : f.qmin ≤ e - g) (h2 : e - g ≤ f.qmax) : Val k (e - g) (quotient f x y) := by
  obtain ⟨s, c, q, rfl⟩ := val_fin hx
  obtain ⟨t, d, r, rfl⟩ := val_fin hy
  rw [quot_ratio hx hy hj]
  have hv : Val k (e - g) (.fin (s != t) k.natAbs (e - g)) := by
    show signed (s != t) k.natAbs * _ = k * _
    congr 1
    by_cases h0 : k = 0
    · rw [h0]; exact signed_zero _
    · have hi : i ≠ 0 := by rw [hk]; exact Int.mul_ne_zero h0 hj
      rw [val_sign hx hi, val_sign hy hj, hk]
      have q : (decide (k * j < 0) != decide (j < 0)) = decide (k < 0) := by
        rcases Int.lt_or_gt_of_ne hj with hj | hj <;> rcases Int.lt_or_gt_of_ne h0 with h0 | h0
        · have := Int.mul_pos_of_neg_of_neg h0 hj
          rw [decide_eq_false (show ¬ k * j < 0 by omega), decide_eq_true hj, decide_eq_true h0]; rfl
        · have := Int.mul_neg_of_pos_of_neg h0 hj
          rw [decide_eq_true this, decide_eq_true hj, decide_eq_false (show ¬ k < 0 by omega)]; rfl
        · have := Int.mul_neg_of_neg_of_pos h0 hj
          rw [decide_eq_true this, decide_eq_false (show ¬ j < 0 by omega), decide_eq_true h0]; rfl
        · have := Int.mul_pos h0 hj
          rw [decide_eq_false (show ¬ k * j < 0 by omega), decide_eq_false (show ¬ j < 0 by omega), decide_eq_false (show ¬ k < 0 by omega)]; rfl
      rw [q]; unfold signed
      by_cases h : k < 0 <;> simp [h] <;> omega
  have e1 : roundRatio f (s != t) i.natAbs j.natAbs (e - g) = round f (.fin (s != t) k.natAbs (e - g)) := by
    refine roundRatio_congr (by omega) (by decide) ?_
    rw [hk, Int.natAbs_mul]; simp
  rw [e1]
  exact val_round hf hv hb h1 h2
/-! on the bits of a double -/
def DV (i e : Int) (a : UInt64) : Prop := Val i e (val64 a)
theorem DV.fin {i e : Int} {a : UInt64} (h : DV i e a) : DFin a := val_fin h
theorem DV.fin64 {i e : Int} {a : UInt64} (h : DV i e a) : Jvm.Free.Fl.Fin64 a := Jvm.Free.Fl.fin64_core.mpr h.fin
theorem DV.nn {i e : Int} {a : UInt64} (h : DV i e a) : Jvm.Free.Fl.NoNaN64 a := h.fin64.noNaN
theorem dv_lit {i e : Int} {a : UInt64} (s : Bool) (c : Nat) (q : Int) (h1 : val64 a = .fin s c q) (h2 : signed s c * ((2 ^ (q - e).toNat : Nat) : Int) = i * ((2 ^ (e - q).toNat : Nat) : Int)) : DV i e a := by
  unfold DV; rw [h1]; exact h2
theorem dv_int {i : Int} {a : UInt64} : DV i 0 a ↔ DInt i a := val_whole
theorem dv_shift {i e : Int} {a : UInt64} (k : Nat) : DV i e a ↔ DV (i * ((2 ^ k : Nat) : Int)) (e - k) a := val_shift k
theorem dv_add {i j e : Int} {a b : UInt64} (ha : DV i e a) (hb : DV j e b) (h : (i + j).natAbs < 2 ^ 53) (h1 : -1074 ≤ e) (h2 : e ≤ 971) : DV (i + j) e (FP.dadd a b) := by
  unfold DV; rw [show FP.dadd a b = dadd a b from rfl, val64_dadd]; exact val_round good_b64 (val_sum ha hb) h h1 h2
theorem dv_sub {i j e : Int} {a b : UInt64} (ha : DV i e a) (hb : DV j e b) (h : (i - j).natAbs < 2 ^ 53) (h1 : -1074 ≤ e) (h2 : e ≤ 971) : DV (i - j) e (FP.dsub a b) := by
  unfold DV; rw [show FP.dsub a b = dsub a b from rfl, val64_dsub]; exact val_round good_b64 (val_sum ha (val_neg hb)) h h1 h2
theorem dv_mul {i j e g : Int} {a b : UInt64} (ha : DV i e a) (hb : DV j g b) (h : (i * j).natAbs < 2 ^ 53) (h1 : -1074 ≤ e + g) (h2 : e + g ≤ 971) : DV (i * j) (e + g) (FP.dmul a b) := by
  unfold DV; rw [show FP.dmul a b = dmul a b from rfl, val64_dmul]; exact val_round good_b64 (val_prod ha hb) h h1 h2
theorem dv_div {i j k e g : Int} {a b : UInt64} (ha : DV i e a) (hb : DV j g b) (hj : j ≠ 0) (hk : i = k * j) (h : k.natAbs < 2 ^ 53) (h1 : -1074 ≤ e - g) (h2 : e - g ≤ 971) : DV k (e - g) (FP.ddiv a b) := by
  unfold DV; rw [show FP.ddiv a b = ddiv a b from rfl, val64_ddiv]; exact val_quot good_b64 ha hb hj hk h h1 h2
theorem dv_cmp {i j e : Int} {a b : UInt64} (ha : DV i e a) (hb : DV j e b) : FP.dcmp a b = some (compare i j) := val_order ha hb
theorem dv_i2d (n : Int32) : DV n.toInt 0 (FP.i2d n) := dv_int.mpr (i2d_int n)
theorem dv_l2d {n : Int64} (h : n.toInt.natAbs ≤ 2 ^ 53) : DV n.toInt 0 (FP.l2d n) := dv_int.mpr (l2d_int h)
/-- what dcmpl and dcmpg push -/
theorem cv_eq {i j e : Int} {a b : UInt64} (ha : DV i e a) (hb : DV j e b) (o : Jvm.ClassFile.CmpOp) (h : i = j) : Jvm.Op.cmpValue (FP.dcmp a b) o = 0 := by
  rw [dv_cmp ha hb, (compare_eq_iff i j).mpr h]; cases o <;> rfl
theorem cv_lt {i j e : Int} {a b : UInt64} (ha : DV i e a) (hb : DV j e b) (o : Jvm.ClassFile.CmpOp) (h : i < j) : Jvm.Op.cmpValue (FP.dcmp a b) o = -1 := by
  rw [dv_cmp ha hb, (compare_lt_iff i j).mpr h]; cases o <;> rfl
theorem cv_gt {i j e : Int} {a b : UInt64} (ha : DV i e a) (hb : DV j e b) (o : Jvm.ClassFile.CmpOp) (h : j < i) : Jvm.Op.cmpValue (FP.dcmp a b) o = 1 := by
  rw [dv_cmp ha hb, (compare_gt_iff i j).mpr h]; cases o <;> rfl
theorem cv_neg {i j e : Int} {a b : UInt64} (ha : DV i e a) (hb : DV j e b) (o : Jvm.ClassFile.CmpOp) : (Jvm.Op.cmpValue (FP.dcmp a b) o < (0 : Int32)) ↔ i < j := by
  rcases Int.lt_trichotomy i j with h | h | h
  · rw [cv_lt ha hb o h]; exact ⟨fun _ => h, fun _ => by decide⟩
  · rw [cv_eq ha hb o h]; exact ⟨fun z => absurd z (by decide), fun z => by omega⟩
  · rw [cv_gt ha hb o h]; exact ⟨fun z => absurd z (by decide), fun z => by omega⟩
theorem cv_pos {i j e : Int} {a b : UInt64} (ha : DV i e a) (hb : DV j e b) (o : Jvm.ClassFile.CmpOp) : ((0 : Int32) < Jvm.Op.cmpValue (FP.dcmp a b) o) ↔ j < i := by
  rcases Int.lt_trichotomy i j with h | h | h
  · rw [cv_lt ha hb o h]; exact ⟨fun z => absurd z (by decide), fun z => by omega⟩
  · rw [cv_eq ha hb o h]; exact ⟨fun z => absurd z (by decide), fun z => by omega⟩
  · rw [cv_gt ha hb o h]; exact ⟨fun _ => h, fun _ => by decide⟩
theorem dv_neg {i e : Int} {a : UInt64} (ha : DV i e a) : DV (-i) e (FP.dneg a) := by
  unfold DV; rw [Jvm.FP.val64_dneg]; exact val_neg ha
end Jvm.Pilot.@@N@@.FV
namespace Jvm.Pilot.@@N@@.TWO
open Jvm.FP.Core FV
theorem whole_signed {n : Int} {s : Bool} {c : Nat} {q : Int} (h : Whole n (.fin s c q)) : signed s n.natAbs = n := val_signed (val_whole.mpr h)
/-- a whole number below 2^63 rounds to a whole number near it -/
theorem rnd_whole {n : Int} {d : Datum} (hd : Whole n d) (h : n.natAbs ≤ 9223372036854775808) : ∃ r : Int, Whole r (round b64 d) ∧ -2048 ≤ r - n ∧ r - n ≤ 2048 := by
  by_cases hs : n.natAbs ≤ 2 ^ 53
  · exact ⟨n, whole_round good_b64 wide_b64 hs hd, by omega, by omega⟩
  · obtain ⟨s, c, q, rfl⟩ := val_fin (val_whole.mpr hd)
    have hsg := whole_signed hd
    rw [round_whole hd]
    generalize hA : n.natAbs = A at *
    have hA0 : 0 < A := by omega
    have g0 := quantum_ge b64 A 1 0
    have g1 := quantum_below (f := b64) hA0 (by decide : 0 < 1) 0
    have g2 := quantum_not_below (f := b64) hA0 (by decide : 0 < 1) 0
    have g3 := nearest_units_le (f := b64) hA0 (by decide : 0 < 1) 0
    unfold roundRatio
    rw [if_neg (by omega)]
    unfold roundAt
    generalize quantum b64 A 1 0 = Q at *
    have hQ0 : 0 ≤ Q := Int.le_of_not_gt fun hlt => by
      have := below_mono (show Q - 0 + (b64.p : Int) ≤ 53 by show Q - 0 + 53 ≤ 53; omega) g1
      have h2 : A * 2 ^ 0 < 1 * 2 ^ 53 := this
      omega
    have hQ1 : Q ≤ 11 := Int.le_of_not_gt fun hlt => by
      rcases g2 with g2 | g2
      · rw [g2] at hlt; exact absurd hlt (by decide)
      · refine g2 (below_mono (a := 64) (by show (64 : Int) ≤ Q - 0 + (53 - 1); omega) ?_)
        show A * 2 ^ 0 < 1 * 2 ^ 64
        omega
    have e1 : unitsNum A 0 Q = A := by unfold unitsNum; rw [show (0 - Q).toNat = 0 by omega]; omega
    have e2 : unitsDen 1 0 Q = 2 ^ Q.toNat := by unfold unitsDen; rw [show (Q - 0).toNat = Q.toNat by omega]; omega
    rw [e1, e2] at g3 ⊢
    obtain ⟨k1, k2, -⟩ := nearest_spec A (2 ^ Q.toNat) (Nat.two_pow_pos _)
    generalize nearest A (2 ^ Q.toNat) = M at *
    have hle : (2 : Nat) ^ Q.toNat ≤ 2 ^ 11 := Nat.pow_le_pow_right (by decide) (by omega)
    have hp := Nat.two_pow_pos Q.toNat
    refine ⟨signed s (M * 2 ^ Q.toNat), ?_, ?_⟩
    · have hqm : Q + 1 ≤ b64.qmax := by show Q + 1 ≤ 971; omega
      unfold settle bound
      split
      · rw [if_pos (by omega)]
        show signed s (M * 2 ^ Q.toNat) = signed s (M * 2 ^ Q.toNat) * ((2 ^ (-Q).toNat : Nat) : Int)
        rw [show (-Q).toNat = 0 by omega]; simp
      · rename_i hM
        have hM' : M = 2 ^ 53 := by have : M ≤ 2 ^ 53 := g3; have : ¬ M < 2 ^ 53 := hM; omega
        first | rw [if_pos hqm] | skip
        show signed s (2 ^ 52 * 2 ^ (Q + 1).toNat) = signed s (M * 2 ^ Q.toNat) * ((2 ^ (-(Q + 1)).toNat : Nat) : Int)
        rw [show (-(Q + 1)).toNat = 0 by omega, show (Q + 1).toNat = Q.toNat + 1 by omega, hM', Nat.pow_succ 2 Q.toNat, show 2 ^ 52 * (2 ^ Q.toNat * 2) = 2 ^ 53 * 2 ^ Q.toNat by omega]
        simp
    · rw [← hsg]
      have a1 : 2 * A ≤ 2 * (M * 2 ^ Q.toNat) + 2 ^ Q.toNat := by
        rw [show 2 * (M * 2 ^ Q.toNat) + 2 ^ Q.toNat = (2 * M + 1) * 2 ^ Q.toNat by rw [Nat.add_mul, Nat.mul_assoc, Nat.one_mul]]; exact k1
      have a2 : 2 * (M * 2 ^ Q.toNat) ≤ 2 * A + 2 ^ Q.toNat := by rw [← Nat.mul_assoc]; exact k2
      clear k1 k2
      generalize M * 2 ^ Q.toNat = MP at *
      generalize 2 ^ Q.toNat = W at *
      cases s <;> simp only [signed, if_true, Bool.false_eq_true, if_false] <;> constructor <;> omega
theorem whole_round_same {n r : Int} {d d' : Datum} (h : Whole n d) (h' : Whole n d') (hr : Whole r (round b64 d)) : Whole r (round b64 d') := by
  obtain ⟨s, c, q, rfl⟩ := val_fin (val_whole.mpr h)
  obtain ⟨s', c', q', rfl⟩ := val_fin (val_whole.mpr h')
  by_cases h0 : n = 0
  · subst h0
    have e1 : Whole 0 (round b64 (.fin s c q)) := whole_round good_b64 wide_b64 (by decide) h
    have e2 : Whole 0 (round b64 (.fin s' c' q')) := whole_round good_b64 wide_b64 (by decide) h'
    have o := order_whole hr e1
    obtain ⟨t, cc, qq, e3⟩ := val_fin (val_whole.mpr hr)
    rw [e3] at hr e1
    have z1 := (whole_zero e1).mpr rfl
    have z2 := (whole_zero hr).mp z1
    rw [z2]; exact e2
  · rw [round_whole h] at hr
    rw [round_whole h', whole_sign h' h0, ← whole_sign h h0]; exact hr
theorem rnd_add {i j : Int} {u v : UInt64} (hu : DInt i u) (hv : DInt j v) (h : (i + j).natAbs ≤ 9223372036854775808) :
    ∃ r, DInt r (FP.dadd u v) ∧ -2048 ≤ r - (i + j) ∧ r - (i + j) ≤ 2048 ∧ ∀ n : Int64, n.toInt = i + j → DInt r (FP.l2d n) := by
  have hw := whole_sum hu hv
  obtain ⟨r, h1, h2, h3⟩ := rnd_whole hw h
  refine ⟨r, by unfold DInt; rw [show FP.dadd u v = dadd u v from rfl, val64_dadd]; exact h1, h2, h3, fun n hn => ?_⟩
  unfold DInt; rw [show FP.l2d n = l2d n from rfl, val64_l2d, hn]; exact whole_round_same hw (whole_ofInt _) h1
theorem rnd_sub {i j : Int} {u v : UInt64} (hu : DInt i u) (hv : DInt j v) (h : (i - j).natAbs ≤ 9223372036854775808) :
    ∃ r, DInt r (FP.dsub u v) ∧ -2048 ≤ r - (i - j) ∧ r - (i - j) ≤ 2048 := by
  have hw := whole_sum hu (whole_negate hv)
  obtain ⟨r, h1, h2, h3⟩ := rnd_whole hw h
  exact ⟨r, by unfold DInt; rw [show FP.dsub u v = dsub u v from rfl, val64_dsub]; exact h1, h2, h3⟩
/-- a difference whose value a double holds is exact -/
theorem rep_sub {i j k : Int} {u v w : UInt64} (hu : DInt i u) (hv : DInt j v) (hw : DInt k w) (h : i - j = k) : DInt k (FP.dsub u v) := by
  have hs := whole_sum hu (whole_negate hv)
  rw [show i + -j = k by omega] at hs
  unfold DInt; rw [show FP.dsub u v = dsub u v from rfl, val64_dsub]
  exact whole_round_same hw hs (by rw [round_of_fits good_b64 (val64_fits w)]; exact hw)
theorem dint_nn {i : Int} {u : UInt64} (h : DInt i u) : Jvm.Free.Fl.NoNaN64 u := (dv_int.mpr h).nn
def s1 (u v : UInt64) : UInt64 := FP.dadd u v
def s2 (u v : UInt64) : UInt64 := FP.dsub (s1 u v) u
def s3 (u v : UInt64) : UInt64 := FP.dsub (s1 u v) (s2 u v)
def s4 (u v : UInt64) : UInt64 := FP.dsub u (s3 u v)
def s5 (u v : UInt64) : UInt64 := FP.dsub v (s2 u v)
def s6 (u v : UInt64) : UInt64 := FP.dadd (s4 u v) (s5 u v)
theorem two_sum {i j : Int} {u v : UInt64} (hu : DInt i u) (hv : DInt j v) (bi : i.natAbs ≤ 4611686018427387904) (bj : j.natAbs ≤ 4611686018427387904) (hsm : i.natAbs ≤ 2147483648 ∨ j.natAbs ≤ 2147483648) :
    ∃ r : Int, -2048 ≤ r - (i + j) ∧ r - (i + j) ≤ 2048 ∧ DInt r (s1 u v) ∧ (∀ n : Int64, n.toInt = i + j → DInt r (FP.l2d n)) ∧ DInt (i + j - r) (s6 u v) ∧
      Jvm.Free.Fl.NoNaN64 (s1 u v) ∧ Jvm.Free.Fl.NoNaN64 (s2 u v) ∧ Jvm.Free.Fl.NoNaN64 (s3 u v) ∧ Jvm.Free.Fl.NoNaN64 (s4 u v) ∧ Jvm.Free.Fl.NoNaN64 (s5 u v) ∧ Jvm.Free.Fl.NoNaN64 (s6 u v) := by
  obtain ⟨r, h1, b1, b2, h2⟩ := rnd_add hu hv (by omega)
  have h1' : DInt r (s1 u v) := h1
  by_cases hj : j.natAbs ≤ 2147483648
  · have g2 : DInt (r - i) (s2 u v) := dsub_int h1' hu (by omega)
    have g3 : DInt i (s3 u v) := rep_sub h1' g2 hu (by omega)
    have g4 : DInt (i - i) (s4 u v) := dsub_int hu g3 (by omega)
    have g5 : DInt (j - (r - i)) (s5 u v) := dsub_int hv g2 (by omega)
    have g6 : DInt (i - i + (j - (r - i))) (s6 u v) := dadd_int g4 g5 (by omega)
    rw [show i - i + (j - (r - i)) = i + j - r by omega] at g6
    exact ⟨r, b1, b2, h1', h2, g6, dint_nn h1', dint_nn g2, dint_nn g3, dint_nn g4, dint_nn g5, dint_nn g6⟩
  · have hi : i.natAbs ≤ 2147483648 := by omega
    obtain ⟨P, g2', c1, c2⟩ := rnd_sub h1' hu (by omega)
    have g2 : DInt P (s2 u v) := g2'
    have g3 : DInt (r - P) (s3 u v) := dsub_int h1' g2 (by omega)
    have g4 : DInt (i - (r - P)) (s4 u v) := dsub_int hu g3 (by omega)
    have g5 : DInt (j - P) (s5 u v) := dsub_int hv g2 (by omega)
    have g6 : DInt (i - (r - P) + (j - P)) (s6 u v) := dadd_int g4 g5 (by omega)
    rw [show i - (r - P) + (j - P) = i + j - r by omega] at g6
    exact ⟨r, b1, b2, h1', h2, g6, dint_nn h1', dint_nn g2, dint_nn g3, dint_nn g4, dint_nn g5, dint_nn g6⟩
end Jvm.Pilot.@@N@@.TWO
namespace Jvm.Pilot.@@N@@
open Jvm Jvm.ClassFile Sem Op Lib Jvm.Free Jvm.Stand Jvm.LawKit Jvm.RoadKit Bundle Jvm.Pilot.@@N@@.Jvm.D
theorem d1_0 : decode prog_7_method_1_code 0 = .ok (.aload_n 0, 1) := by decide +kernel
theorem d1_1 : decode prog_7_method_1_code 1 = .ok (.invokespecial 1, 3) := by decide +kernel
theorem d1_4 : decode prog_7_method_1_code 4 = .ok (.return_, 1) := by decide +kernel
theorem pn_1 : plainName "com/example/mulberry/mulberry/DoubleWord" = true := by first | (simp [plainName, overriddenIn]; done) | decide +kernel
theorem ef_rm1 (m : MethodId) (x0 : Addr) : entryFrame m #[(.ref x0)] 1 = mkF m 0 #[.val (.ref x0)] [] := by first | (simp [entryFrame, mkF, argsToLocals, Value.category]; done) | rfl
def Q_rm1 (Z : State) (a : Addr) (h0 : Heap) (n0 : Nat) (rv : Option Value) (h : Heap) (L : List Loc) : Prop := rv = none ∧ Fr n0 L ∧ h = h0
set_option maxRecDepth 65536 in
set_option maxHeartbeats 40000000 in
theorem rm1 (l : Launch) (Z : State) (a0 : Array Value) (hw : ∀ d ∈ tables_1, d.before a0 Z = true) (ws : List Jvm.Cond) (a : Addr) (h0 : Heap) (n0 : Nat) (Z0 : n0 ≤ h0.size) :
    MetFree l (⟨"com/example/mulberry/mulberry/DoubleWord", "<init>", "()V"⟩ : MethodName) (head1 (Jvm.Cond.code (⟨"com/example/mulberry/mulberry/DoubleWord", "<init>", "()V"⟩ : MethodName) prog_7_method_1_code 1 none :: ws) ({ frames := 1, cells := 0, slots := 0, locals := 12 } : Room)) (fun av U => av = #[(.ref a)] ∧ Z.Warmed39 U.vm ∧ U.heap = h0) (fun _ _ _ _ _ => True) (fun _ U o U' => ∃ rv L, o = .returned rv ∧ Q_rm1 Z a h0 n0 rv U'.heap L ∧ FrameEnd U o U' L ({ frames := 1, cells := 0, slots := 0, locals := 12 } : Room).cells ({ frames := 1, cells := 0, slots := 0, locals := 12 } : Room).slots) := by
  refine MetFree.of_bodySF (plainFor_of_name pn_1) hisR ?_
  intro p e s m args below meth c s₁ Bd hml0 hP hK
  obtain ⟨rfl, hZ, hh⟩ := hP
  have hx := Bd.exec
  have hby := Bd.bytes
  have hml : c.maxLocals = 1 := hml0
  have hown : s.vm.findClass "com/example/mulberry/mulberry/DoubleWord" = some m.cls := findClass_of_methodNamed Bd.named
  have hnm := (name_of_methodNamed Bd.named Bd.method).1
  have X0 : Stand p l e ({ frames := 1, cells := 0, slots := 0, locals := 12 } : Room) s m #[(.ref a)] below meth c s₁ [] 0 0 := Stand.of_body Bd
  have e0 : s₁.heap = h0 := by rw [← hh, Bd.state]; rfl
  have N0 := Fr.nil n0
  have pre0 : ∀ t, Steps p.tables e below (s₁.setTop (mkF m 0 #[.val (.ref a)] [])) t → Steps p.tables e below (s₁.setTop (entryFrame m #[(.ref a)] 1)) t := fun t k => castTop (ef_rm1 m a) k
  have sg1 : ∀ target, Steps p.tables e below (s₁.setTop (mkF m 1 #[.val (.ref a)] [(.ref a)])) target → Steps p.tables e below (s₁.setTop (mkF m 0 #[.val (.ref a)] [])) target := by
    intro target kt
    show Steps p.tables e below (s₁.setTop (mkF m 0 #[.val (.ref a)] [])) _
    refine XS.aloadN X0.here hx rfl (hb hby d1_0) rfl rfl ?_
    exact kt
  obtain ⟨T2, X2, e2, st2⟩ := initO X0 hx hZ hown (hw _ (List.mem_of_getElem? (i := 6) rfl)) (hw _ (List.mem_of_getElem? (i := 7) rfl)) (hw _ (List.mem_of_getElem? (i := 8) rfl)) e0 (g := (mkF m 1 #[.val (.ref a)] [(.ref a)])) rfl (by rw [hml]; rfl) rfl (hb hby d1_1) (by decide) (W := 0) (by show 2 * 0 + _ ≤ _; exact Nat.le_of_eq rfl) (by decide)
  obtain ⟨fs, hr, hrun, hended, hW, hsame⟩ := X2.leave (v := none) (fun _ => rfl)
  refine ⟨_, _, pre0 _ ?_, hrun, hended, _, _, rfl, ?_, ⟨_, rfl⟩, hW, hsame.mono (by decide) (by decide)⟩
  · show Steps p.tables e below (s₁.setTop (mkF m 0 #[.val (.ref a)] [])) _
    refine sg1 _ ?_
    refine st2 _ ?_
    show Steps p.tables e below (T2.setTop (mkF m 4 #[.val (.ref a)] [])) _
    exact X2.returnOut hx Bd.returns (hb hby d1_4) hr
  · show Q_rm1 Z a h0 n0 _ T2.heap _
    rw [e2]
    exact ⟨rfl, N0, rfl⟩
theorem d3_0 : decode prog_7_method_3_code 0 = .ok (.dload_n 1, 1) := by decide +kernel
theorem d3_1 : decode prog_7_method_3_code 1 = .ok (.dload_n 3, 1) := by decide +kernel
theorem d3_2 : decode prog_7_method_3_code 2 = .ok (.dadd, 1) := by decide +kernel
theorem d3_3 : decode prog_7_method_3_code 3 = .ok (.dstore 5, 2) := by decide +kernel
theorem d3_5 : decode prog_7_method_3_code 5 = .ok (.dload 5, 2) := by decide +kernel
theorem d3_7 : decode prog_7_method_3_code 7 = .ok (.dload_n 1, 1) := by decide +kernel
theorem d3_8 : decode prog_7_method_3_code 8 = .ok (.dsub, 1) := by decide +kernel
theorem d3_9 : decode prog_7_method_3_code 9 = .ok (.dstore 7, 2) := by decide +kernel
theorem d3_11 : decode prog_7_method_3_code 11 = .ok (.aload_n 0, 1) := by decide +kernel
theorem d3_12 : decode prog_7_method_3_code 12 = .ok (.dload_n 1, 1) := by decide +kernel
theorem d3_13 : decode prog_7_method_3_code 13 = .ok (.dload 5, 2) := by decide +kernel
theorem d3_15 : decode prog_7_method_3_code 15 = .ok (.dload 7, 2) := by decide +kernel
theorem d3_17 : decode prog_7_method_3_code 17 = .ok (.dsub, 1) := by decide +kernel
theorem d3_18 : decode prog_7_method_3_code 18 = .ok (.dsub, 1) := by decide +kernel
theorem d3_19 : decode prog_7_method_3_code 19 = .ok (.dload_n 3, 1) := by decide +kernel
theorem d3_20 : decode prog_7_method_3_code 20 = .ok (.dload 7, 2) := by decide +kernel
theorem d3_22 : decode prog_7_method_3_code 22 = .ok (.dsub, 1) := by decide +kernel
theorem d3_23 : decode prog_7_method_3_code 23 = .ok (.dadd, 1) := by decide +kernel
theorem d3_24 : decode prog_7_method_3_code 24 = .ok (.putfield 13, 3) := by decide +kernel
theorem d3_27 : decode prog_7_method_3_code 27 = .ok (.aload_n 0, 1) := by decide +kernel
theorem d3_28 : decode prog_7_method_3_code 28 = .ok (.dload 5, 2) := by decide +kernel
theorem d3_30 : decode prog_7_method_3_code 30 = .ok (.putfield 7, 3) := by decide +kernel
theorem d3_33 : decode prog_7_method_3_code 33 = .ok (.return_, 1) := by decide +kernel
theorem pn_3 : plainName "com/example/mulberry/mulberry/DoubleWord" = true := by first | (simp [plainName, overriddenIn]; done) | decide +kernel
theorem ef_rm3 (m : MethodId) (x0 : Addr) (x1 : UInt64) (x2 : UInt64) : entryFrame m #[(.ref x0), (.double x1), (.double x2)] 9 = mkF m 0 #[.val (.ref x0), .val (.double x1), .second, .val (.double x2), .second, .unset, .unset, .unset, .unset] [] := by first | (simp [entryFrame, mkF, argsToLocals, Value.category]; done) | rfl
def Q_rm3 (Z : State) (a : Addr) (u : UInt64) (v : UInt64) (z1 : UInt64) (z2 : UInt64) (h0 : Heap) (n0 : Nat) (rv : Option Value) (h : Heap) (L : List Loc) : Prop := rv = none ∧ Fr n0 L ∧ Keep h0 h [a] ∧ Exa Z h a "com/example/mulberry/mulberry/DoubleWord" ∧ Fld Z h a "com/example/mulberry/mulberry/DoubleWord" "hi" "D" (.double (TWO.s1 u v)) ∧ Fld Z h a "com/example/mulberry/mulberry/DoubleWord" "lo" "D" (.double (TWO.s6 u v))
set_option maxRecDepth 65536 in
set_option maxHeartbeats 40000000 in
theorem rm3 (l : Launch) (Z : State) (a0 : Array Value) (hw : ∀ d ∈ tables_1, d.before a0 Z = true) (ws : List Jvm.Cond) (a : Addr) (u : UInt64) (v : UInt64) (z1 : UInt64) (z2 : UInt64) (h0 : Heap) (n0 : Nat) (Z0 : n0 ≤ h0.size) (E_a : Exa Z h0 a "com/example/mulberry/mulberry/DoubleWord") (F_hi : Fld Z h0 a "com/example/mulberry/mulberry/DoubleWord" "hi" "D" (.double z1)) (F_lo : Fld Z h0 a "com/example/mulberry/mulberry/DoubleWord" "lo" "D" (.double z2)) (g_a : n0 ≤ a) (nn1 : Jvm.Free.Fl.NoNaN64 (TWO.s1 u v)) (nn2 : Jvm.Free.Fl.NoNaN64 (TWO.s2 u v)) (nn3 : Jvm.Free.Fl.NoNaN64 (TWO.s3 u v)) (nn4 : Jvm.Free.Fl.NoNaN64 (TWO.s4 u v)) (nn5 : Jvm.Free.Fl.NoNaN64 (TWO.s5 u v)) (nn6 : Jvm.Free.Fl.NoNaN64 (TWO.s6 u v)) :
    MetFree l (⟨"com/example/mulberry/mulberry/DoubleWord", "setSum", "(DD)V"⟩ : MethodName) (head1 (Jvm.Cond.code (⟨"com/example/mulberry/mulberry/DoubleWord", "setSum", "(DD)V"⟩ : MethodName) prog_7_method_3_code 9 none :: ws) ({ frames := 0, cells := 0, slots := 0, locals := 0 } : Room)) (fun av U => av = #[(.ref a), (.double u), (.double v)] ∧ Z.Warmed39 U.vm ∧ U.heap = h0) (fun _ _ _ _ _ => True) (fun _ U o U' => ∃ rv L, o = .returned rv ∧ Q_rm3 Z a u v z1 z2 h0 n0 rv U'.heap L ∧ FrameEnd U o U' L ({ frames := 0, cells := 0, slots := 0, locals := 0 } : Room).cells ({ frames := 0, cells := 0, slots := 0, locals := 0 } : Room).slots) := by
  refine MetFree.of_bodySF (plainFor_of_name pn_3) hisR ?_
  intro p e s m args below meth c s₁ Bd hml0 hP hK
  obtain ⟨rfl, hZ, hh⟩ := hP
  have hx := Bd.exec
  have hby := Bd.bytes
  have hml : c.maxLocals = 9 := hml0
  have hown : s.vm.findClass "com/example/mulberry/mulberry/DoubleWord" = some m.cls := findClass_of_methodNamed Bd.named
  have hnm := (name_of_methodNamed Bd.named Bd.method).1
  have X0 : Stand p l e ({ frames := 0, cells := 0, slots := 0, locals := 0 } : Room) s m #[(.ref a), (.double u), (.double v)] below meth c s₁ [] 0 0 := Stand.of_body Bd
  have e0 : s₁.heap = h0 := by rw [← hh, Bd.state]; rfl
  have N0 := Fr.nil n0
  have pre0 : ∀ t, Steps p.tables e below (s₁.setTop (mkF m 0 #[.val (.ref a), .val (.double u), .second, .val (.double v), .second, .unset, .unset, .unset, .unset] [])) t → Steps p.tables e below (s₁.setTop (entryFrame m #[(.ref a), (.double u), (.double v)] 9)) t := fun t k => castTop (ef_rm3 m a u v) k
  have sg1 : ∀ target, Steps p.tables e below (s₁.setTop (mkF m 24 #[.val (.ref a), .val (.double u), .second, .val (.double v), .second, .val (.double (TWO.s1 u v)), .second, .val (.double (TWO.s2 u v)), .second] [(.double (TWO.s6 u v)), (.ref a)])) target → Steps p.tables e below (s₁.setTop (mkF m 0 #[.val (.ref a), .val (.double u), .second, .val (.double v), .second, .unset, .unset, .unset, .unset] [])) target := by
    intro target kt
    show Steps p.tables e below (s₁.setTop (mkF m 0 #[.val (.ref a), .val (.double u), .second, .val (.double v), .second, .unset, .unset, .unset, .unset] [])) _
    refine XS.dloadN X0.here hx rfl (hb hby d3_0) rfl ?_
    show Steps p.tables e below (s₁.setTop (mkF m 1 #[.val (.ref a), .val (.double u), .second, .val (.double v), .second, .unset, .unset, .unset, .unset] [(.double u)])) _
    refine XS.dloadN X0.here hx rfl (hb hby d3_1) rfl ?_
    show Steps p.tables e below (s₁.setTop (mkF m 2 #[.val (.ref a), .val (.double u), .second, .val (.double v), .second, .unset, .unset, .unset, .unset] [(.double v), (.double u)])) _
    refine XS.daddS X0.here hx rfl (v := (TWO.s1 u v)) (hb hby d3_2) rfl nn1 rfl ?_
    show Steps p.tables e below (s₁.setTop (mkF m 3 #[.val (.ref a), .val (.double u), .second, .val (.double v), .second, .unset, .unset, .unset, .unset] [(.double (TWO.s1 u v))])) _
    refine XS.dstore X0.here hx rfl (hb hby d3_3) rfl (l' := #[.val (.ref a), .val (.double u), .second, .val (.double v), .second, .val (.double (TWO.s1 u v)), .second, .unset, .unset]) rfl ?_
    show Steps p.tables e below (s₁.setTop (mkF m 5 #[.val (.ref a), .val (.double u), .second, .val (.double v), .second, .val (.double (TWO.s1 u v)), .second, .unset, .unset] [])) _
    refine XS.dload X0.here hx rfl (hb hby d3_5) rfl ?_
    show Steps p.tables e below (s₁.setTop (mkF m 7 #[.val (.ref a), .val (.double u), .second, .val (.double v), .second, .val (.double (TWO.s1 u v)), .second, .unset, .unset] [(.double (TWO.s1 u v))])) _
    refine XS.dloadN X0.here hx rfl (hb hby d3_7) rfl ?_
    show Steps p.tables e below (s₁.setTop (mkF m 8 #[.val (.ref a), .val (.double u), .second, .val (.double v), .second, .val (.double (TWO.s1 u v)), .second, .unset, .unset] [(.double u), (.double (TWO.s1 u v))])) _
    refine XS.dsubS X0.here hx rfl (v := (TWO.s2 u v)) (hb hby d3_8) rfl nn2 rfl ?_
    show Steps p.tables e below (s₁.setTop (mkF m 9 #[.val (.ref a), .val (.double u), .second, .val (.double v), .second, .val (.double (TWO.s1 u v)), .second, .unset, .unset] [(.double (TWO.s2 u v))])) _
    refine XS.dstore X0.here hx rfl (hb hby d3_9) rfl (l' := #[.val (.ref a), .val (.double u), .second, .val (.double v), .second, .val (.double (TWO.s1 u v)), .second, .val (.double (TWO.s2 u v)), .second]) rfl ?_
    show Steps p.tables e below (s₁.setTop (mkF m 11 #[.val (.ref a), .val (.double u), .second, .val (.double v), .second, .val (.double (TWO.s1 u v)), .second, .val (.double (TWO.s2 u v)), .second] [])) _
    refine XS.aloadN X0.here hx rfl (hb hby d3_11) rfl rfl ?_
    show Steps p.tables e below (s₁.setTop (mkF m 12 #[.val (.ref a), .val (.double u), .second, .val (.double v), .second, .val (.double (TWO.s1 u v)), .second, .val (.double (TWO.s2 u v)), .second] [(.ref a)])) _
    refine XS.dloadN X0.here hx rfl (hb hby d3_12) rfl ?_
    show Steps p.tables e below (s₁.setTop (mkF m 13 #[.val (.ref a), .val (.double u), .second, .val (.double v), .second, .val (.double (TWO.s1 u v)), .second, .val (.double (TWO.s2 u v)), .second] [(.double u), (.ref a)])) _
    refine XS.dload X0.here hx rfl (hb hby d3_13) rfl ?_
    show Steps p.tables e below (s₁.setTop (mkF m 15 #[.val (.ref a), .val (.double u), .second, .val (.double v), .second, .val (.double (TWO.s1 u v)), .second, .val (.double (TWO.s2 u v)), .second] [(.double (TWO.s1 u v)), (.double u), (.ref a)])) _
    refine XS.dload X0.here hx rfl (hb hby d3_15) rfl ?_
    show Steps p.tables e below (s₁.setTop (mkF m 17 #[.val (.ref a), .val (.double u), .second, .val (.double v), .second, .val (.double (TWO.s1 u v)), .second, .val (.double (TWO.s2 u v)), .second] [(.double (TWO.s2 u v)), (.double (TWO.s1 u v)), (.double u), (.ref a)])) _
    refine XS.dsubS X0.here hx rfl (v := (TWO.s3 u v)) (hb hby d3_17) rfl nn3 rfl ?_
    show Steps p.tables e below (s₁.setTop (mkF m 18 #[.val (.ref a), .val (.double u), .second, .val (.double v), .second, .val (.double (TWO.s1 u v)), .second, .val (.double (TWO.s2 u v)), .second] [(.double (TWO.s3 u v)), (.double u), (.ref a)])) _
    refine XS.dsubS X0.here hx rfl (v := (TWO.s4 u v)) (hb hby d3_18) rfl nn4 rfl ?_
    show Steps p.tables e below (s₁.setTop (mkF m 19 #[.val (.ref a), .val (.double u), .second, .val (.double v), .second, .val (.double (TWO.s1 u v)), .second, .val (.double (TWO.s2 u v)), .second] [(.double (TWO.s4 u v)), (.ref a)])) _
    refine XS.dloadN X0.here hx rfl (hb hby d3_19) rfl ?_
    show Steps p.tables e below (s₁.setTop (mkF m 20 #[.val (.ref a), .val (.double u), .second, .val (.double v), .second, .val (.double (TWO.s1 u v)), .second, .val (.double (TWO.s2 u v)), .second] [(.double v), (.double (TWO.s4 u v)), (.ref a)])) _
    refine XS.dload X0.here hx rfl (hb hby d3_20) rfl ?_
    show Steps p.tables e below (s₁.setTop (mkF m 22 #[.val (.ref a), .val (.double u), .second, .val (.double v), .second, .val (.double (TWO.s1 u v)), .second, .val (.double (TWO.s2 u v)), .second] [(.double (TWO.s2 u v)), (.double v), (.double (TWO.s4 u v)), (.ref a)])) _
    refine XS.dsubS X0.here hx rfl (v := (TWO.s5 u v)) (hb hby d3_22) rfl nn5 rfl ?_
    show Steps p.tables e below (s₁.setTop (mkF m 23 #[.val (.ref a), .val (.double u), .second, .val (.double v), .second, .val (.double (TWO.s1 u v)), .second, .val (.double (TWO.s2 u v)), .second] [(.double (TWO.s5 u v)), (.double (TWO.s4 u v)), (.ref a)])) _
    refine XS.daddS X0.here hx rfl (v := (TWO.s6 u v)) (hb hby d3_23) rfl nn6 rfl ?_
    exact kt
  obtain ⟨T2, h2, X2, e2, W2, st2⟩ := putF X0 hx hZ hown (host := "") (Or.inl (hw _ (List.mem_of_getElem? (i := 14) rfl))) Via.refl e0 F_lo E_a (Or.inl (hw _ (List.mem_of_getElem? (i := 15) rfl))) (hw _ (List.mem_of_getElem? (i := 1) rfl)) (ty := .double) (by decide) rfl rfl (g := (mkF m 24 #[.val (.ref a), .val (.double u), .second, .val (.double v), .second, .val (.double (TWO.s1 u v)), .second, .val (.double (TWO.s2 u v)), .second] [(.double (TWO.s6 u v)), (.ref a)])) rfl rfl (hb hby d3_24)
  have N2 := Fr.snoc X2 N0 g_a
  have Zs2 : n0 ≤ h2.size := by rw [W2.size]; exact Z0
  have K2 : Keep h0 h2 [a] := (Keep.refl h0 [a]).wr W2 (Or.inl (List.mem_of_getElem? (i := 0) rfl))
  have f3 : Exa Z h2 a "com/example/mulberry/mulberry/DoubleWord" := E_a.wr W2
  have f4 : Fld Z h2 a "com/example/mulberry/mulberry/DoubleWord" "hi" "D" (.double z1) := F_hi.other W2 (Or.inr (slot_ne (Or.inl (hw _ (List.mem_of_getElem? (i := 17) rfl))) (Or.inl (hw _ (List.mem_of_getElem? (i := 15) rfl))) (by decide) (t := .double) (t' := .double) (by decide) (by decide)))
  have f5 : Fld Z h2 a "com/example/mulberry/mulberry/DoubleWord" "lo" "D" (.double (TWO.s6 u v)) := F_lo.same W2
  have sg6 : ∀ target, Steps p.tables e below (T2.setTop (mkF m 30 #[.val (.ref a), .val (.double u), .second, .val (.double v), .second, .val (.double (TWO.s1 u v)), .second, .val (.double (TWO.s2 u v)), .second] [(.double (TWO.s1 u v)), (.ref a)])) target → Steps p.tables e below (T2.setTop (mkF m 27 #[.val (.ref a), .val (.double u), .second, .val (.double v), .second, .val (.double (TWO.s1 u v)), .second, .val (.double (TWO.s2 u v)), .second] [])) target := by
    intro target kt
    show Steps p.tables e below (T2.setTop (mkF m 27 #[.val (.ref a), .val (.double u), .second, .val (.double v), .second, .val (.double (TWO.s1 u v)), .second, .val (.double (TWO.s2 u v)), .second] [])) _
    refine XS.aloadN X2.here hx rfl (hb hby d3_27) rfl rfl ?_
    show Steps p.tables e below (T2.setTop (mkF m 28 #[.val (.ref a), .val (.double u), .second, .val (.double v), .second, .val (.double (TWO.s1 u v)), .second, .val (.double (TWO.s2 u v)), .second] [(.ref a)])) _
    refine XS.dload X2.here hx rfl (hb hby d3_28) rfl ?_
    exact kt
  obtain ⟨T7, h7, X7, e7, W7, st7⟩ := putF X2 hx hZ hown (host := "") (Or.inl (hw _ (List.mem_of_getElem? (i := 16) rfl))) Via.refl e2 f4 f3 (Or.inl (hw _ (List.mem_of_getElem? (i := 17) rfl))) (hw _ (List.mem_of_getElem? (i := 1) rfl)) (ty := .double) (by decide) rfl rfl (g := (mkF m 30 #[.val (.ref a), .val (.double u), .second, .val (.double v), .second, .val (.double (TWO.s1 u v)), .second, .val (.double (TWO.s2 u v)), .second] [(.double (TWO.s1 u v)), (.ref a)])) rfl rfl (hb hby d3_30)
  have N7 := Fr.snoc X7 N2 g_a
  have Zs7 : n0 ≤ h7.size := by rw [W7.size]; exact Zs2
  have K7 : Keep h0 h7 [a] := K2.wr W7 (Or.inl (List.mem_of_getElem? (i := 0) rfl))
  have f8 : Exa Z h7 a "com/example/mulberry/mulberry/DoubleWord" := f3.wr W7
  have f9 : Fld Z h7 a "com/example/mulberry/mulberry/DoubleWord" "lo" "D" (.double (TWO.s6 u v)) := f5.other W7 (Or.inr (slot_ne (Or.inl (hw _ (List.mem_of_getElem? (i := 15) rfl))) (Or.inl (hw _ (List.mem_of_getElem? (i := 17) rfl))) (by decide) (t := .double) (t' := .double) (by decide) (by decide)))
  have f10 : Fld Z h7 a "com/example/mulberry/mulberry/DoubleWord" "hi" "D" (.double (TWO.s1 u v)) := f4.same W7
  obtain ⟨fs, hr, hrun, hended, hW, hsame⟩ := X7.leave (v := none) (fun _ => rfl)
  refine ⟨_, _, pre0 _ ?_, hrun, hended, _, _, rfl, ?_, ⟨_, rfl⟩, hW, hsame.mono (by decide) (by decide)⟩
  · show Steps p.tables e below (s₁.setTop (mkF m 0 #[.val (.ref a), .val (.double u), .second, .val (.double v), .second, .unset, .unset, .unset, .unset] [])) _
    refine sg1 _ ?_
    refine st2 _ ?_
    refine sg6 _ ?_
    refine st7 _ ?_
    show Steps p.tables e below (T7.setTop (mkF m 33 #[.val (.ref a), .val (.double u), .second, .val (.double v), .second, .val (.double (TWO.s1 u v)), .second, .val (.double (TWO.s2 u v)), .second] [])) _
    exact X7.returnOut hx Bd.returns (hb hby d3_33) hr
  · show Q_rm3 Z a u v z1 z2 h0 n0 _ T7.heap _
    rw [e7]
    exact ⟨rfl, N7, K7, f8, f10, f9⟩
def own_big (x k : Int32) : Int64 := ((x).toInt64 <<< ((k &&& (31 : Int32)) &&& 0x3f).toInt64)
def own_ex (x y k : Int32) : Int64 := (own_big x k + (y).toInt64)
theorem own_big_val (x k : Int32) : ∃ S : Nat, S ≤ 31 ∧ (own_big x k).toInt = x.toInt * ((2 ^ S : Nat) : Int) := by
  have hm : (k &&& (31 : Int32)).toInt = k.toInt % ((2 ^ 5 : Nat) : Int) := c_mask k 31 5 (by decide) (by decide)
  have h0 : 0 ≤ (k &&& (31 : Int32)).toInt ∧ (k &&& (31 : Int32)).toInt < 32 := by
    rw [hm]; exact ⟨Int.emod_nonneg _ (by decide), Int.emod_lt_of_pos _ (by decide)⟩
  have hn : (k &&& (31 : Int32)).toBitVec.toNat ≤ 31 := by
    have e : (k &&& (31 : Int32)).toInt = (k &&& (31 : Int32)).toBitVec.toInt := rfl
    have l := (k &&& (31 : Int32)).toBitVec.isLt
    rw [e, BitVec.toInt_eq_toNat_cond] at h0
    split at h0 <;> omega
  have hs := c_lshl (x).toInt64 (k &&& (31 : Int32)) ((k &&& (31 : Int32)).toBitVec.toNat) (Nat.mod_eq_of_lt (by omega))
  refine ⟨_, hn, ?_⟩
  generalize (k &&& (31 : Int32)).toBitVec.toNat = S at *
  unfold own_big
  rw [Int32.toInt_toInt64] at hs
  have b1 := x.toInt_lt
  have b2 := x.le_toInt
  have hp : ((2 ^ S : Nat) : Int) ≤ 2147483648 := by
    have : (2 : Nat) ^ S ≤ 2 ^ 31 := Nat.pow_le_pow_right (by decide) hn
    omega
  have hp0 := FV.p2 S
  have r := rng64 ((x).toInt64 <<< ((k &&& (31 : Int32)) &&& 0x3f).toInt64)
  generalize ((x).toInt64 <<< ((k &&& (31 : Int32)) &&& 0x3f).toInt64).toInt = B at *
  generalize ((2 ^ S : Nat) : Int) = W at *
  have m1 : x.toInt * W ≤ 2147483647 * 2147483648 := Int.le_trans (Int.mul_le_mul_of_nonneg_right (show x.toInt ≤ 2147483647 by omega) (by omega)) (Int.mul_le_mul_of_nonneg_left hp (by decide))
  have m2 : -2147483648 * 2147483648 ≤ x.toInt * W := Int.le_trans (by omega : (-2147483648 : Int) * 2147483648 ≤ -2147483648 * W) (Int.mul_le_mul_of_nonneg_right (show (-2147483648 : Int) ≤ x.toInt by omega) (by omega))
  generalize x.toInt * W = V at *
  omega
theorem own_big_b (x k : Int32) : (own_big x k).toInt.natAbs ≤ 4611686018427387904 := by
  obtain ⟨S, hS, e⟩ := own_big_val x k
  have b1 := x.toInt_lt
  have b2 := x.le_toInt
  have hp : 2 ^ S ≤ 2147483648 := Nat.pow_le_pow_right (by decide) hS
  rw [e, Int.natAbs_mul, Int.natAbs_natCast]
  have : x.toInt.natAbs * 2 ^ S ≤ 2147483648 * 2147483648 := Nat.mul_le_mul (by omega) hp
  omega
theorem own_A (x k : Int32) : Jvm.FP.Core.DInt (own_big x k).toInt (FP.l2d (own_big x k)) := by
  obtain ⟨S, hS, e⟩ := own_big_val x k
  have b1 := x.toInt_lt
  have b2 := x.le_toInt
  have v : FV.Val x.toInt S (Jvm.FP.Core.ofInt (own_big x k).toInt) := by
    rw [FV.val_shift S, show ((S : Nat) : Int) - S = 0 by omega, e]; exact FV.val_ofInt _
  have v2 := FV.val_round Jvm.FP.Core.good_b64 v (show x.toInt.natAbs < 2 ^ 53 by omega) (show (-1074 : Int) ≤ S by omega) (show (S : Int) ≤ 971 by omega)
  rw [FV.val_shift S, show ((S : Nat) : Int) - S = 0 by omega, ← e, FV.val_whole] at v2
  unfold Jvm.FP.Core.DInt; rw [show FP.l2d (own_big x k) = Jvm.FP.Core.l2d (own_big x k) from rfl, Jvm.FP.Core.val64_l2d]; exact v2
theorem own_ex_val (x y k : Int32) : (own_ex x y k).toInt = (own_big x k).toInt + y.toInt := by
  have h1 := own_big_b x k
  have h2 := y.toInt_lt
  have h3 := y.le_toInt
  unfold own_ex
  rw [Jvm.FP.Core.int64_add (by rw [Int32.toInt_toInt64]; omega) (by rw [Int32.toInt_toInt64]; omega), Int32.toInt_toInt64]
/-- both orders: what the two comparisons push, and that no step is a NaN -/
theorem own_law (x y k : Int32) (u v : UInt64) (h : (u = FP.l2d (own_big x k) ∧ v = FP.i2d y) ∨ (u = FP.i2d y ∧ v = FP.l2d (own_big x k))) :
    cmpValue (FP.dcmp (TWO.s1 u v) (FP.l2d (own_ex x y k))) .l = 0 ∧ cmpValue (FP.dcmp (TWO.s6 u v) (FP.l2d (own_ex x y k - FP.d2l (FP.l2d (own_ex x y k))))) .l = 0 ∧
      Jvm.Free.Fl.NoNaN64 (TWO.s1 u v) ∧ Jvm.Free.Fl.NoNaN64 (TWO.s2 u v) ∧ Jvm.Free.Fl.NoNaN64 (TWO.s3 u v) ∧ Jvm.Free.Fl.NoNaN64 (TWO.s4 u v) ∧ Jvm.Free.Fl.NoNaN64 (TWO.s5 u v) ∧ Jvm.Free.Fl.NoNaN64 (TWO.s6 u v) := by
  have hb := own_big_b x k
  have h2 := y.toInt_lt
  have h3 := y.le_toInt
  have hA := own_A x k
  have hB := Jvm.FP.Core.i2d_int y
  have hE := own_ex_val x y k
  have main : ∃ r : Int, -2048 ≤ r - (own_ex x y k).toInt ∧ r - (own_ex x y k).toInt ≤ 2048 ∧ Jvm.FP.Core.DInt r (TWO.s1 u v) ∧ Jvm.FP.Core.DInt r (FP.l2d (own_ex x y k)) ∧ Jvm.FP.Core.DInt ((own_ex x y k).toInt - r) (TWO.s6 u v) ∧
      Jvm.Free.Fl.NoNaN64 (TWO.s1 u v) ∧ Jvm.Free.Fl.NoNaN64 (TWO.s2 u v) ∧ Jvm.Free.Fl.NoNaN64 (TWO.s3 u v) ∧ Jvm.Free.Fl.NoNaN64 (TWO.s4 u v) ∧ Jvm.Free.Fl.NoNaN64 (TWO.s5 u v) ∧ Jvm.Free.Fl.NoNaN64 (TWO.s6 u v) := by
    rcases h with ⟨rfl, rfl⟩ | ⟨rfl, rfl⟩
    · obtain ⟨r, b1, b2, d1, d2, d3, d4⟩ := TWO.two_sum hA hB hb (by omega) (Or.inr (by omega))
      rw [← hE] at b1 b2 d3
      exact ⟨r, b1, b2, d1, d2 _ hE, d3, d4⟩
    · obtain ⟨r, b1, b2, d1, d2, d3, d4⟩ := TWO.two_sum hB hA (by omega) hb (Or.inl (by omega))
      rw [show y.toInt + (own_big x k).toInt = (own_ex x y k).toInt by omega] at b1 b2 d3
      exact ⟨r, b1, b2, d1, d2 _ (by omega), d3, d4⟩
  obtain ⟨r, b1, b2, d1, d2, d3, d4⟩ := main
  have eb : -4611686021000000000 < (own_ex x y k).toInt ∧ (own_ex x y k).toInt < 4611686021000000000 := by omega
  have er : (Int64.ofInt r).toInt = r := Int64.toInt_ofInt_of_le (by omega) (by omega)
  have hl : FP.d2l (FP.l2d (own_ex x y k)) = Int64.ofInt r := Jvm.FP.Core.d2l_int (by rw [er]; exact d2)
  have hd : (own_ex x y k - Int64.ofInt r).toInt = (own_ex x y k).toInt - r := by
    rw [Jvm.FP.Core.int64_sub (by rw [er]; omega) (by rw [er]; omega), er]
  have dl : Jvm.FP.Core.DInt ((own_ex x y k).toInt - r) (FP.l2d (own_ex x y k - Int64.ofInt r)) := by
    rw [← hd]; exact Jvm.FP.Core.l2d_int (by rw [hd]; omega)
  rw [hl]
  exact ⟨FV.cv_eq (FV.dv_int.mpr d1) (FV.dv_int.mpr d2) .l rfl, FV.cv_eq (FV.dv_int.mpr d3) (FV.dv_int.mpr dl) .l rfl, d4⟩
theorem pd_1 : parseMethodDescriptor "()V" = some ⟨[], none⟩ := by decide +kernel
theorem pd_2 : parseMethodDescriptor "(DD)V" = some ⟨[.double, .double], none⟩ := by decide +kernel
theorem pn_0 : plainName "com/example/mulberry/mulberry/DoubleWordSetSumPinLaw" = true := by first | (simp [plainName, overriddenIn]; done) | decide +kernel
theorem ef_rm0 (m : MethodId) (x0 : Int32) (x1 : Int32) (x2 : Int32) : entryFrame m #[(.int x0), (.int x1), (.int x2)] maxLocals = mkF m 0 #[.val (.int x0), .val (.int x1), .val (.int x2), .unset, .unset, .unset, .unset, .unset, .unset, .unset, .unset, .unset, .unset, .unset, .unset, .unset, .unset, .unset, .unset] [] := by first | (simp [entryFrame, mkF, argsToLocals, Value.category, maxLocals]; done) | rfl
def Q_rm0 (Z : State) (p1 : Int32) (p2 : Int32) (p3 : Int32) (h0 : Heap) (n0 : Nat) (rv : Option Value) (h : Heap) (L : List Loc) : Prop := rv = some (.int 1) ∧ Fr n0 L
set_option maxRecDepth 65536 in
set_option maxHeartbeats 40000000 in
theorem rm0 (l : Launch) (Z : State) (a0 : Array Value) (hw : ∀ d ∈ tables_1, d.before a0 Z = true) (ws : List Jvm.Cond) (p1 : Int32) (p2 : Int32) (p3 : Int32) (h0 : Heap) (n0 : Nat) (Z0 : n0 ≤ h0.size) :
    MetFree l x (head1 (Jvm.Cond.code x code maxLocals ret :: ws) room_1) (fun av U => av = #[(.int p1), (.int p2), (.int p3)] ∧ Z.Warmed39 U.vm ∧ U.heap = h0) (fun _ _ _ _ _ => True) (fun _ U o U' => ∃ rv L, o = .returned rv ∧ Q_rm0 Z p1 p2 p3 h0 n0 rv U'.heap L ∧ FrameEnd U o U' L room_1.cells room_1.slots) := by
  refine MetFree.of_bodySF (plainFor_of_name pn_0) hisR ?_
  intro p e s m args below meth c s₁ Bd hml0 hP hK
  obtain ⟨rfl, hZ, hh⟩ := hP
  have hx := Bd.exec
  have hby := Bd.bytes
  have hml : c.maxLocals = 19 := hml0
  have hown : s.vm.findClass "com/example/mulberry/mulberry/DoubleWordSetSumPinLaw" = some m.cls := findClass_of_methodNamed Bd.named
  have hnm := (name_of_methodNamed Bd.named Bd.method).1
  have X0 : Stand p l e room_1 s m #[(.int p1), (.int p2), (.int p3)] below meth c s₁ [] 0 0 := Stand.of_body Bd
  have e0 : s₁.heap = h0 := by rw [← hh, Bd.state]; rfl
  have N0 := Fr.nil n0
  have pre0 : ∀ t, Steps p.tables e below (s₁.setTop (mkF m 0 #[.val (.int p1), .val (.int p2), .val (.int p3), .unset, .unset, .unset, .unset, .unset, .unset, .unset, .unset, .unset, .unset, .unset, .unset, .unset, .unset, .unset, .unset] [])) t → Steps p.tables e below (s₁.setTop (entryFrame m #[(.int p1), (.int p2), (.int p3)] maxLocals)) t := fun t k => castTop (ef_rm0 m p1 p2 p3) k
  have sg1 : ∀ target, Steps p.tables e below (s₁.setTop (mkF m 27 #[.val (.int p1), .val (.int p2), .val (.int p3), .val (.int (p3 &&& (31 : Int32))), .val (.long (own_big p1 p3)), .second, .val (.long (own_ex p1 p2 p3)), .second, .val (.double (FP.l2d (own_big p1 p3))), .second, .val (.double (FP.i2d p2)), .second, .unset, .unset, .unset, .unset, .unset, .unset, .unset] [])) target → Steps p.tables e below (s₁.setTop (mkF m 0 #[.val (.int p1), .val (.int p2), .val (.int p3), .unset, .unset, .unset, .unset, .unset, .unset, .unset, .unset, .unset, .unset, .unset, .unset, .unset, .unset, .unset, .unset] [])) target := by
    intro target kt
    show Steps p.tables e below (s₁.setTop (mkF m 0 #[.val (.int p1), .val (.int p2), .val (.int p3), .unset, .unset, .unset, .unset, .unset, .unset, .unset, .unset, .unset, .unset, .unset, .unset, .unset, .unset, .unset, .unset] [])) _
    refine XS.iloadN X0.here hx rfl (hb hby at_0) rfl ?_
    show Steps p.tables e below (s₁.setTop (mkF m 1 #[.val (.int p1), .val (.int p2), .val (.int p3), .unset, .unset, .unset, .unset, .unset, .unset, .unset, .unset, .unset, .unset, .unset, .unset, .unset, .unset, .unset, .unset] [(.int p3)])) _
    refine XS.bipush X0.here hx rfl (hb hby at_1) ?_
    show Steps p.tables e below (s₁.setTop (mkF m 3 #[.val (.int p1), .val (.int p2), .val (.int p3), .unset, .unset, .unset, .unset, .unset, .unset, .unset, .unset, .unset, .unset, .unset, .unset, .unset, .unset, .unset, .unset] [(.int (31 : Int32)), (.int p3)])) _
    refine XS.iand X0.here hx rfl (hb hby at_3) rfl ?_
    show Steps p.tables e below (s₁.setTop (mkF m 4 #[.val (.int p1), .val (.int p2), .val (.int p3), .unset, .unset, .unset, .unset, .unset, .unset, .unset, .unset, .unset, .unset, .unset, .unset, .unset, .unset, .unset, .unset] [(.int (p3 &&& (31 : Int32)))])) _
    refine XS.istoreN X0.here hx rfl (hb hby at_4) rfl (l' := #[.val (.int p1), .val (.int p2), .val (.int p3), .val (.int (p3 &&& (31 : Int32))), .unset, .unset, .unset, .unset, .unset, .unset, .unset, .unset, .unset, .unset, .unset, .unset, .unset, .unset, .unset]) rfl ?_
    show Steps p.tables e below (s₁.setTop (mkF m 5 #[.val (.int p1), .val (.int p2), .val (.int p3), .val (.int (p3 &&& (31 : Int32))), .unset, .unset, .unset, .unset, .unset, .unset, .unset, .unset, .unset, .unset, .unset, .unset, .unset, .unset, .unset] [])) _
    refine XS.iloadN X0.here hx rfl (hb hby at_5) rfl ?_
    show Steps p.tables e below (s₁.setTop (mkF m 6 #[.val (.int p1), .val (.int p2), .val (.int p3), .val (.int (p3 &&& (31 : Int32))), .unset, .unset, .unset, .unset, .unset, .unset, .unset, .unset, .unset, .unset, .unset, .unset, .unset, .unset, .unset] [(.int p1)])) _
    refine XS.i2l X0.here hx rfl (hb hby at_6) rfl ?_
    show Steps p.tables e below (s₁.setTop (mkF m 7 #[.val (.int p1), .val (.int p2), .val (.int p3), .val (.int (p3 &&& (31 : Int32))), .unset, .unset, .unset, .unset, .unset, .unset, .unset, .unset, .unset, .unset, .unset, .unset, .unset, .unset, .unset] [(.long (p1).toInt64)])) _
    refine XS.iloadN X0.here hx rfl (hb hby at_7) rfl ?_
    show Steps p.tables e below (s₁.setTop (mkF m 8 #[.val (.int p1), .val (.int p2), .val (.int p3), .val (.int (p3 &&& (31 : Int32))), .unset, .unset, .unset, .unset, .unset, .unset, .unset, .unset, .unset, .unset, .unset, .unset, .unset, .unset, .unset] [(.int (p3 &&& (31 : Int32))), (.long (p1).toInt64)])) _
    refine XS.lshl X0.here hx rfl (hb hby at_8) rfl ?_
    show Steps p.tables e below (s₁.setTop (mkF m 9 #[.val (.int p1), .val (.int p2), .val (.int p3), .val (.int (p3 &&& (31 : Int32))), .unset, .unset, .unset, .unset, .unset, .unset, .unset, .unset, .unset, .unset, .unset, .unset, .unset, .unset, .unset] [(.long (own_big p1 p3))])) _
    refine XS.lstore X0.here hx rfl (hb hby at_9) rfl (l' := #[.val (.int p1), .val (.int p2), .val (.int p3), .val (.int (p3 &&& (31 : Int32))), .val (.long (own_big p1 p3)), .second, .unset, .unset, .unset, .unset, .unset, .unset, .unset, .unset, .unset, .unset, .unset, .unset, .unset]) rfl ?_
    show Steps p.tables e below (s₁.setTop (mkF m 11 #[.val (.int p1), .val (.int p2), .val (.int p3), .val (.int (p3 &&& (31 : Int32))), .val (.long (own_big p1 p3)), .second, .unset, .unset, .unset, .unset, .unset, .unset, .unset, .unset, .unset, .unset, .unset, .unset, .unset] [])) _
    refine XS.lload X0.here hx rfl (hb hby at_11) rfl ?_
    show Steps p.tables e below (s₁.setTop (mkF m 13 #[.val (.int p1), .val (.int p2), .val (.int p3), .val (.int (p3 &&& (31 : Int32))), .val (.long (own_big p1 p3)), .second, .unset, .unset, .unset, .unset, .unset, .unset, .unset, .unset, .unset, .unset, .unset, .unset, .unset] [(.long (own_big p1 p3))])) _
    refine XS.iloadN X0.here hx rfl (hb hby at_13) rfl ?_
    show Steps p.tables e below (s₁.setTop (mkF m 14 #[.val (.int p1), .val (.int p2), .val (.int p3), .val (.int (p3 &&& (31 : Int32))), .val (.long (own_big p1 p3)), .second, .unset, .unset, .unset, .unset, .unset, .unset, .unset, .unset, .unset, .unset, .unset, .unset, .unset] [(.int p2), (.long (own_big p1 p3))])) _
    refine XS.i2l X0.here hx rfl (hb hby at_14) rfl ?_
    show Steps p.tables e below (s₁.setTop (mkF m 15 #[.val (.int p1), .val (.int p2), .val (.int p3), .val (.int (p3 &&& (31 : Int32))), .val (.long (own_big p1 p3)), .second, .unset, .unset, .unset, .unset, .unset, .unset, .unset, .unset, .unset, .unset, .unset, .unset, .unset] [(.long (p2).toInt64), (.long (own_big p1 p3))])) _
    refine XS.ladd X0.here hx rfl (hb hby at_15) rfl ?_
    show Steps p.tables e below (s₁.setTop (mkF m 16 #[.val (.int p1), .val (.int p2), .val (.int p3), .val (.int (p3 &&& (31 : Int32))), .val (.long (own_big p1 p3)), .second, .unset, .unset, .unset, .unset, .unset, .unset, .unset, .unset, .unset, .unset, .unset, .unset, .unset] [(.long (own_ex p1 p2 p3))])) _
    refine XS.lstore X0.here hx rfl (hb hby at_16) rfl (l' := #[.val (.int p1), .val (.int p2), .val (.int p3), .val (.int (p3 &&& (31 : Int32))), .val (.long (own_big p1 p3)), .second, .val (.long (own_ex p1 p2 p3)), .second, .unset, .unset, .unset, .unset, .unset, .unset, .unset, .unset, .unset, .unset, .unset]) rfl ?_
    show Steps p.tables e below (s₁.setTop (mkF m 18 #[.val (.int p1), .val (.int p2), .val (.int p3), .val (.int (p3 &&& (31 : Int32))), .val (.long (own_big p1 p3)), .second, .val (.long (own_ex p1 p2 p3)), .second, .unset, .unset, .unset, .unset, .unset, .unset, .unset, .unset, .unset, .unset, .unset] [])) _
    refine XS.lload X0.here hx rfl (hb hby at_18) rfl ?_
    show Steps p.tables e below (s₁.setTop (mkF m 20 #[.val (.int p1), .val (.int p2), .val (.int p3), .val (.int (p3 &&& (31 : Int32))), .val (.long (own_big p1 p3)), .second, .val (.long (own_ex p1 p2 p3)), .second, .unset, .unset, .unset, .unset, .unset, .unset, .unset, .unset, .unset, .unset, .unset] [(.long (own_big p1 p3))])) _
    refine XS.l2dS X0.here hx rfl (v := (FP.l2d (own_big p1 p3))) (hb hby at_20) rfl rfl ?_
    show Steps p.tables e below (s₁.setTop (mkF m 21 #[.val (.int p1), .val (.int p2), .val (.int p3), .val (.int (p3 &&& (31 : Int32))), .val (.long (own_big p1 p3)), .second, .val (.long (own_ex p1 p2 p3)), .second, .unset, .unset, .unset, .unset, .unset, .unset, .unset, .unset, .unset, .unset, .unset] [(.double (FP.l2d (own_big p1 p3)))])) _
    refine XS.dstore X0.here hx rfl (hb hby at_21) rfl (l' := #[.val (.int p1), .val (.int p2), .val (.int p3), .val (.int (p3 &&& (31 : Int32))), .val (.long (own_big p1 p3)), .second, .val (.long (own_ex p1 p2 p3)), .second, .val (.double (FP.l2d (own_big p1 p3))), .second, .unset, .unset, .unset, .unset, .unset, .unset, .unset, .unset, .unset]) rfl ?_
    show Steps p.tables e below (s₁.setTop (mkF m 23 #[.val (.int p1), .val (.int p2), .val (.int p3), .val (.int (p3 &&& (31 : Int32))), .val (.long (own_big p1 p3)), .second, .val (.long (own_ex p1 p2 p3)), .second, .val (.double (FP.l2d (own_big p1 p3))), .second, .unset, .unset, .unset, .unset, .unset, .unset, .unset, .unset, .unset] [])) _
    refine XS.iloadN X0.here hx rfl (hb hby at_23) rfl ?_
    show Steps p.tables e below (s₁.setTop (mkF m 24 #[.val (.int p1), .val (.int p2), .val (.int p3), .val (.int (p3 &&& (31 : Int32))), .val (.long (own_big p1 p3)), .second, .val (.long (own_ex p1 p2 p3)), .second, .val (.double (FP.l2d (own_big p1 p3))), .second, .unset, .unset, .unset, .unset, .unset, .unset, .unset, .unset, .unset] [(.int p2)])) _
    refine XS.i2dS X0.here hx rfl (v := (FP.i2d p2)) (hb hby at_24) rfl rfl ?_
    show Steps p.tables e below (s₁.setTop (mkF m 25 #[.val (.int p1), .val (.int p2), .val (.int p3), .val (.int (p3 &&& (31 : Int32))), .val (.long (own_big p1 p3)), .second, .val (.long (own_ex p1 p2 p3)), .second, .val (.double (FP.l2d (own_big p1 p3))), .second, .unset, .unset, .unset, .unset, .unset, .unset, .unset, .unset, .unset] [(.double (FP.i2d p2))])) _
    refine XS.dstore X0.here hx rfl (hb hby at_25) rfl (l' := #[.val (.int p1), .val (.int p2), .val (.int p3), .val (.int (p3 &&& (31 : Int32))), .val (.long (own_big p1 p3)), .second, .val (.long (own_ex p1 p2 p3)), .second, .val (.double (FP.l2d (own_big p1 p3))), .second, .val (.double (FP.i2d p2)), .second, .unset, .unset, .unset, .unset, .unset, .unset, .unset]) rfl ?_
    exact kt
  obtain ⟨T2, h2, X2, e2, E2, A2, D2, -, st2⟩ := newO X0 hx hZ hown (hw _ (List.mem_of_getElem? (i := 0) rfl)) (hw _ (List.mem_of_getElem? (i := 1) rfl)) (hw _ (List.mem_of_getElem? (i := 2) rfl)) e0 (g := (mkF m 27 #[.val (.int p1), .val (.int p2), .val (.int p3), .val (.int (p3 &&& (31 : Int32))), .val (.long (own_big p1 p3)), .second, .val (.long (own_ex p1 p2 p3)), .second, .val (.double (FP.l2d (own_big p1 p3))), .second, .val (.double (FP.i2d p2)), .second, .unset, .unset, .unset, .unset, .unset, .unset, .unset] [])) rfl (hb hby at_27) (by decide) (by decide)
  obtain ⟨b2, g2⟩ : ∃ z, z = h0.size := ⟨_, rfl⟩
  rw [← g2] at A2 D2 st2
  have g_b2 : n0 ≤ b2 := Nat.le_trans Z0 (Nat.le_of_eq g2.symm)
  have Zs2 : n0 ≤ h2.size := Nat.le_trans Z0 E2.1
  have f3 : Exa Z h2 b2 "com/example/mulberry/mulberry/DoubleWord" := A2
  have f4 : Fld Z h2 b2 "com/example/mulberry/mulberry/DoubleWord" "lo" "D" (.double (0 : UInt64)) := D2 (Or.inl (hw _ (List.mem_of_getElem? (i := 15) rfl))) (ty := .double) (by decide)
  have f5 : Fld Z h2 b2 "com/example/mulberry/mulberry/DoubleWord" "hi" "D" (.double (0 : UInt64)) := D2 (Or.inl (hw _ (List.mem_of_getElem? (i := 17) rfl))) (ty := .double) (by decide)
  have sg6 : ∀ target, Steps p.tables e below (T2.setTop (mkF m 31 #[.val (.int p1), .val (.int p2), .val (.int p3), .val (.int (p3 &&& (31 : Int32))), .val (.long (own_big p1 p3)), .second, .val (.long (own_ex p1 p2 p3)), .second, .val (.double (FP.l2d (own_big p1 p3))), .second, .val (.double (FP.i2d p2)), .second, .unset, .unset, .unset, .unset, .unset, .unset, .unset] [(.ref b2), (.ref b2)])) target → Steps p.tables e below (T2.setTop (mkF m 30 #[.val (.int p1), .val (.int p2), .val (.int p3), .val (.int (p3 &&& (31 : Int32))), .val (.long (own_big p1 p3)), .second, .val (.long (own_ex p1 p2 p3)), .second, .val (.double (FP.l2d (own_big p1 p3))), .second, .val (.double (FP.i2d p2)), .second, .unset, .unset, .unset, .unset, .unset, .unset, .unset] [(.ref b2)])) target := by
    intro target kt
    show Steps p.tables e below (T2.setTop (mkF m 30 #[.val (.int p1), .val (.int p2), .val (.int p3), .val (.int (p3 &&& (31 : Int32))), .val (.long (own_big p1 p3)), .second, .val (.long (own_ex p1 p2 p3)), .second, .val (.double (FP.l2d (own_big p1 p3))), .second, .val (.double (FP.i2d p2)), .second, .unset, .unset, .unset, .unset, .unset, .unset, .unset] [(.ref b2)])) _
    refine XS.dup X2.here hx rfl (hb hby at_30) rfl rfl ?_
    exact kt
  obtain ⟨_, _, ⟨T7, L7, k7, n7⟩, -, X7, ⟨Lc7, hQ7, l7, y7, z7⟩, st7⟩ := X2.specialBack hx (y := (⟨"com/example/mulberry/mulberry/DoubleWord", "<init>", "()V"⟩ : MethodName)) rfl hown (mvT hZ (hw _ (List.mem_of_getElem? (i := 3) rfl))) (mvT hZ (hw _ (List.mem_of_getElem? (i := 4) rfl))) (mvT hZ (hw _ (List.mem_of_getElem? (i := 5) rfl))) (by decide) (backOf (W := 1) (rm1 l Z a0 hw [] b2 h2 n0 Zs2 ) hZ (hw _ (List.mem_of_getElem? (i := 5) rfl)) (hw _ (List.mem_of_getElem? (i := 2) rfl)) (by decide) (by decide)) (g := (mkF m 31 #[.val (.int p1), .val (.int p2), .val (.int p3), .val (.int (p3 &&& (31 : Int32))), .val (.long (own_big p1 p3)), .second, .val (.long (own_ex p1 p2 p3)), .second, .val (.double (FP.l2d (own_big p1 p3))), .second, .val (.double (FP.i2d p2)), .second, .unset, .unset, .unset, .unset, .unset, .unset, .unset] [(.ref b2), (.ref b2)])) rfl (by rw [hml]; rfl) (Steps.refl _) (a := b2) (argsL := []) (rest := [(.ref b2)]) (lenOf pd_1 rfl) rfl (by show 2 * 0 + _ ≤ _; exact Nat.le_of_eq rfl) (hb hby at_31) (fun _ _ => ⟨rfl, e2, (by decide : 1 + 0 ≤ _), (by decide : 2 + 0 ≤ _)⟩)
  dsimp only [Pt.U, Pt.locs, Pt.cells, Pt.slots] at X7 l7 y7 z7 st7 hQ7
  subst l7 y7 z7
  obtain ⟨rfl, N7q, c7_0⟩ := hQ7
  have N7 := Fr.app N0 N7q
  have sg8 : ∀ target, Steps p.tables e below (T7.setTop (mkF m 40 #[.val (.int p1), .val (.int p2), .val (.int p3), .val (.int (p3 &&& (31 : Int32))), .val (.long (own_big p1 p3)), .second, .val (.long (own_ex p1 p2 p3)), .second, .val (.double (FP.l2d (own_big p1 p3))), .second, .val (.double (FP.i2d p2)), .second, .val (.ref b2), .unset, .unset, .unset, .unset, .unset, .unset] [(.int (p3 &&& (32 : Int32)))])) target → Steps p.tables e below (T7.setTop (mkF m 34 #[.val (.int p1), .val (.int p2), .val (.int p3), .val (.int (p3 &&& (31 : Int32))), .val (.long (own_big p1 p3)), .second, .val (.long (own_ex p1 p2 p3)), .second, .val (.double (FP.l2d (own_big p1 p3))), .second, .val (.double (FP.i2d p2)), .second, .unset, .unset, .unset, .unset, .unset, .unset, .unset] [(.ref b2)])) target := by
    intro target kt
    show Steps p.tables e below (T7.setTop (mkF m 34 #[.val (.int p1), .val (.int p2), .val (.int p3), .val (.int (p3 &&& (31 : Int32))), .val (.long (own_big p1 p3)), .second, .val (.long (own_ex p1 p2 p3)), .second, .val (.double (FP.l2d (own_big p1 p3))), .second, .val (.double (FP.i2d p2)), .second, .unset, .unset, .unset, .unset, .unset, .unset, .unset] [(.ref b2)])) _
    refine XS.astore X7.here hx rfl (hb hby at_34) rfl rfl (l' := #[.val (.int p1), .val (.int p2), .val (.int p3), .val (.int (p3 &&& (31 : Int32))), .val (.long (own_big p1 p3)), .second, .val (.long (own_ex p1 p2 p3)), .second, .val (.double (FP.l2d (own_big p1 p3))), .second, .val (.double (FP.i2d p2)), .second, .val (.ref b2), .unset, .unset, .unset, .unset, .unset, .unset]) rfl ?_
    show Steps p.tables e below (T7.setTop (mkF m 36 #[.val (.int p1), .val (.int p2), .val (.int p3), .val (.int (p3 &&& (31 : Int32))), .val (.long (own_big p1 p3)), .second, .val (.long (own_ex p1 p2 p3)), .second, .val (.double (FP.l2d (own_big p1 p3))), .second, .val (.double (FP.i2d p2)), .second, .val (.ref b2), .unset, .unset, .unset, .unset, .unset, .unset] [])) _
    refine XS.iloadN X7.here hx rfl (hb hby at_36) rfl ?_
    show Steps p.tables e below (T7.setTop (mkF m 37 #[.val (.int p1), .val (.int p2), .val (.int p3), .val (.int (p3 &&& (31 : Int32))), .val (.long (own_big p1 p3)), .second, .val (.long (own_ex p1 p2 p3)), .second, .val (.double (FP.l2d (own_big p1 p3))), .second, .val (.double (FP.i2d p2)), .second, .val (.ref b2), .unset, .unset, .unset, .unset, .unset, .unset] [(.int p3)])) _
    refine XS.bipush X7.here hx rfl (hb hby at_37) ?_
    show Steps p.tables e below (T7.setTop (mkF m 39 #[.val (.int p1), .val (.int p2), .val (.int p3), .val (.int (p3 &&& (31 : Int32))), .val (.long (own_big p1 p3)), .second, .val (.long (own_ex p1 p2 p3)), .second, .val (.double (FP.l2d (own_big p1 p3))), .second, .val (.double (FP.i2d p2)), .second, .val (.ref b2), .unset, .unset, .unset, .unset, .unset, .unset] [(.int (32 : Int32)), (.int p3)])) _
    refine XS.iand X7.here hx rfl (hb hby at_39) rfl ?_
    exact kt
  by_cases hk : (p3 &&& (32 : Int32)) = (0 : Int32)
  · obtain ⟨k1, k2, m1, m2, m3, m4, m5, m6⟩ := own_law p1 p2 p3 _ _ (Or.inl ⟨rfl, rfl⟩)
    have sg9 : ∀ target, Steps p.tables e below (T7.setTop (mkF m 61 #[.val (.int p1), .val (.int p2), .val (.int p3), .val (.int (p3 &&& (31 : Int32))), .val (.long (own_big p1 p3)), .second, .val (.long (own_ex p1 p2 p3)), .second, .val (.double (FP.l2d (own_big p1 p3))), .second, .val (.double (FP.i2d p2)), .second, .val (.ref b2), .unset, .unset, .unset, .unset, .unset, .unset] [(.double (FP.i2d p2)), (.double (FP.l2d (own_big p1 p3))), (.ref b2)])) target → Steps p.tables e below (T7.setTop (mkF m 40 #[.val (.int p1), .val (.int p2), .val (.int p3), .val (.int (p3 &&& (31 : Int32))), .val (.long (own_big p1 p3)), .second, .val (.long (own_ex p1 p2 p3)), .second, .val (.double (FP.l2d (own_big p1 p3))), .second, .val (.double (FP.i2d p2)), .second, .val (.ref b2), .unset, .unset, .unset, .unset, .unset, .unset] [(.int (p3 &&& (32 : Int32)))])) target := by
      intro target kt
      show Steps p.tables e below (T7.setTop (mkF m 40 #[.val (.int p1), .val (.int p2), .val (.int p3), .val (.int (p3 &&& (31 : Int32))), .val (.long (own_big p1 p3)), .second, .val (.long (own_ex p1 p2 p3)), .second, .val (.double (FP.l2d (own_big p1 p3))), .second, .val (.double (FP.i2d p2)), .second, .val (.ref b2), .unset, .unset, .unset, .unset, .unset, .unset] [(.int (p3 &&& (32 : Int32)))])) _
      refine XS.ifYes X7.here hx rfl (pc0 := 40) (pc' := 55) rfl (hb hby at_40) rfl ((if0 _ _).trans (teq (hk : (p3 &&& (32 : Int32)) = (0 : Int32))).1) (by decide) (by decide) ?_
      show Steps p.tables e below (T7.setTop (mkF m 55 #[.val (.int p1), .val (.int p2), .val (.int p3), .val (.int (p3 &&& (31 : Int32))), .val (.long (own_big p1 p3)), .second, .val (.long (own_ex p1 p2 p3)), .second, .val (.double (FP.l2d (own_big p1 p3))), .second, .val (.double (FP.i2d p2)), .second, .val (.ref b2), .unset, .unset, .unset, .unset, .unset, .unset] [])) _
      refine XS.aload X7.here hx rfl (hb hby at_55) rfl rfl ?_
      show Steps p.tables e below (T7.setTop (mkF m 57 #[.val (.int p1), .val (.int p2), .val (.int p3), .val (.int (p3 &&& (31 : Int32))), .val (.long (own_big p1 p3)), .second, .val (.long (own_ex p1 p2 p3)), .second, .val (.double (FP.l2d (own_big p1 p3))), .second, .val (.double (FP.i2d p2)), .second, .val (.ref b2), .unset, .unset, .unset, .unset, .unset, .unset] [(.ref b2)])) _
      refine XS.dload X7.here hx rfl (hb hby at_57) rfl ?_
      show Steps p.tables e below (T7.setTop (mkF m 59 #[.val (.int p1), .val (.int p2), .val (.int p3), .val (.int (p3 &&& (31 : Int32))), .val (.long (own_big p1 p3)), .second, .val (.long (own_ex p1 p2 p3)), .second, .val (.double (FP.l2d (own_big p1 p3))), .second, .val (.double (FP.i2d p2)), .second, .val (.ref b2), .unset, .unset, .unset, .unset, .unset, .unset] [(.double (FP.l2d (own_big p1 p3))), (.ref b2)])) _
      refine XS.dload X7.here hx rfl (hb hby at_59) rfl ?_
      exact kt
    obtain ⟨cq10, kq10, q10a, q10b, q10c⟩ := isOf hZ c7_0 f3
    obtain ⟨_, _, ⟨T10, L10, k10, n10⟩, -, X10, ⟨Lc10, hQ10, l10, y10, z10⟩, st10⟩ := X7.virtualBack hx (y := (⟨"com/example/mulberry/mulberry/DoubleWord", "setSum", "(DD)V"⟩ : MethodName)) (z := (⟨"com/example/mulberry/mulberry/DoubleWord", "setSum", "(DD)V"⟩ : MethodName)) hown (mvT hZ (hw _ (List.mem_of_getElem? (i := 9) rfl))) (mvT hZ (hw _ (List.mem_of_getElem? (i := 10) rfl))) (notFace_of_selects (args := #[]) (mvT hZ (hw _ (List.mem_of_getElem? (i := 12) rfl)))) (mvT hZ (hw _ (List.mem_of_getElem? (i := 12) rfl))) (mvT hZ (hw _ (List.mem_of_getElem? (i := 11) rfl))) (by decide) (backOf (W := 0) (rm3 l Z a0 hw [] b2 (FP.l2d (own_big p1 p3)) (FP.i2d p2) (0 : UInt64) (0 : UInt64) h2 n0 Zs2 f3 f5 f4 g_b2 m1 m2 m3 m4 m5 m6) hZ (hw _ (List.mem_of_getElem? (i := 13) rfl)) (hw _ (List.mem_of_getElem? (i := 2) rfl)) (by decide) (by decide)) q10a q10c (g := (mkF m 61 #[.val (.int p1), .val (.int p2), .val (.int p3), .val (.int (p3 &&& (31 : Int32))), .val (.long (own_big p1 p3)), .second, .val (.long (own_ex p1 p2 p3)), .second, .val (.double (FP.l2d (own_big p1 p3))), .second, .val (.double (FP.i2d p2)), .second, .val (.ref b2), .unset, .unset, .unset, .unset, .unset, .unset] [(.double (FP.i2d p2)), (.double (FP.l2d (own_big p1 p3))), (.ref b2)])) rfl (by rw [hml]; rfl) (Steps.refl _) (argsL := [(.double (FP.l2d (own_big p1 p3))), (.double (FP.i2d p2))]) (rest := []) (lenOf pd_2 rfl) rfl (by show 2 * 0 + _ ≤ _; exact Nat.le_of_eq rfl) (hb hby at_61) (fun _ _ => ⟨rfl, c7_0, (by decide : 1 + 0 ≤ _), (by decide : 2 + 0 ≤ _)⟩)
    dsimp only [Pt.U, Pt.locs, Pt.cells, Pt.slots] at X10 l10 y10 z10 st10 hQ10
    subst l10 y10 z10
    obtain ⟨rfl, N10q, c10_0, c10_1, c10_2, c10_3⟩ := hQ10
    have N10 := Fr.app N7 N10q
    have Zs10 : n0 ≤ T10.heap.size := Nat.le_trans Zs2 c10_0.1
    have f11 : Exa Z T10.heap b2 "com/example/mulberry/mulberry/DoubleWord" := c10_1
    have f12 : Fld Z T10.heap b2 "com/example/mulberry/mulberry/DoubleWord" "hi" "D" (.double (TWO.s1 (FP.l2d (own_big p1 p3)) (FP.i2d p2))) := c10_2
    have f13 : Fld Z T10.heap b2 "com/example/mulberry/mulberry/DoubleWord" "lo" "D" (.double (TWO.s6 (FP.l2d (own_big p1 p3)) (FP.i2d p2))) := c10_3
    have sg14 : ∀ target, Steps p.tables e below (T10.setTop (mkF m 84 #[.val (.int p1), .val (.int p2), .val (.int p3), .val (.int (p3 &&& (31 : Int32))), .val (.long (own_big p1 p3)), .second, .val (.long (own_ex p1 p2 p3)), .second, .val (.double (FP.l2d (own_big p1 p3))), .second, .val (.double (FP.i2d p2)), .second, .val (.ref b2), .val (.double (FP.l2d (own_ex p1 p2 p3))), .second, .val (.long (FP.d2l (FP.l2d (own_ex p1 p2 p3)))), .second, .val (.double (FP.l2d ((own_ex p1 p2 p3) - (FP.d2l (FP.l2d (own_ex p1 p2 p3)))))), .second] [(.ref b2)])) target → Steps p.tables e below (T10.setTop (mkF m 64 #[.val (.int p1), .val (.int p2), .val (.int p3), .val (.int (p3 &&& (31 : Int32))), .val (.long (own_big p1 p3)), .second, .val (.long (own_ex p1 p2 p3)), .second, .val (.double (FP.l2d (own_big p1 p3))), .second, .val (.double (FP.i2d p2)), .second, .val (.ref b2), .unset, .unset, .unset, .unset, .unset, .unset] [])) target := by
      intro target kt
      show Steps p.tables e below (T10.setTop (mkF m 64 #[.val (.int p1), .val (.int p2), .val (.int p3), .val (.int (p3 &&& (31 : Int32))), .val (.long (own_big p1 p3)), .second, .val (.long (own_ex p1 p2 p3)), .second, .val (.double (FP.l2d (own_big p1 p3))), .second, .val (.double (FP.i2d p2)), .second, .val (.ref b2), .unset, .unset, .unset, .unset, .unset, .unset] [])) _
      refine XS.lload X10.here hx rfl (hb hby at_64) rfl ?_
      show Steps p.tables e below (T10.setTop (mkF m 66 #[.val (.int p1), .val (.int p2), .val (.int p3), .val (.int (p3 &&& (31 : Int32))), .val (.long (own_big p1 p3)), .second, .val (.long (own_ex p1 p2 p3)), .second, .val (.double (FP.l2d (own_big p1 p3))), .second, .val (.double (FP.i2d p2)), .second, .val (.ref b2), .unset, .unset, .unset, .unset, .unset, .unset] [(.long (own_ex p1 p2 p3))])) _
      refine XS.l2dS X10.here hx rfl (v := (FP.l2d (own_ex p1 p2 p3))) (hb hby at_66) rfl rfl ?_
      show Steps p.tables e below (T10.setTop (mkF m 67 #[.val (.int p1), .val (.int p2), .val (.int p3), .val (.int (p3 &&& (31 : Int32))), .val (.long (own_big p1 p3)), .second, .val (.long (own_ex p1 p2 p3)), .second, .val (.double (FP.l2d (own_big p1 p3))), .second, .val (.double (FP.i2d p2)), .second, .val (.ref b2), .unset, .unset, .unset, .unset, .unset, .unset] [(.double (FP.l2d (own_ex p1 p2 p3)))])) _
      refine XS.dstore X10.here hx rfl (hb hby at_67) rfl (l' := #[.val (.int p1), .val (.int p2), .val (.int p3), .val (.int (p3 &&& (31 : Int32))), .val (.long (own_big p1 p3)), .second, .val (.long (own_ex p1 p2 p3)), .second, .val (.double (FP.l2d (own_big p1 p3))), .second, .val (.double (FP.i2d p2)), .second, .val (.ref b2), .val (.double (FP.l2d (own_ex p1 p2 p3))), .second, .unset, .unset, .unset, .unset]) rfl ?_
      show Steps p.tables e below (T10.setTop (mkF m 69 #[.val (.int p1), .val (.int p2), .val (.int p3), .val (.int (p3 &&& (31 : Int32))), .val (.long (own_big p1 p3)), .second, .val (.long (own_ex p1 p2 p3)), .second, .val (.double (FP.l2d (own_big p1 p3))), .second, .val (.double (FP.i2d p2)), .second, .val (.ref b2), .val (.double (FP.l2d (own_ex p1 p2 p3))), .second, .unset, .unset, .unset, .unset] [])) _
      refine XS.dload X10.here hx rfl (hb hby at_69) rfl ?_
      show Steps p.tables e below (T10.setTop (mkF m 71 #[.val (.int p1), .val (.int p2), .val (.int p3), .val (.int (p3 &&& (31 : Int32))), .val (.long (own_big p1 p3)), .second, .val (.long (own_ex p1 p2 p3)), .second, .val (.double (FP.l2d (own_big p1 p3))), .second, .val (.double (FP.i2d p2)), .second, .val (.ref b2), .val (.double (FP.l2d (own_ex p1 p2 p3))), .second, .unset, .unset, .unset, .unset] [(.double (FP.l2d (own_ex p1 p2 p3)))])) _
      refine XS.d2lS X10.here hx rfl (v := (FP.d2l (FP.l2d (own_ex p1 p2 p3)))) (hb hby at_71) rfl rfl ?_
      show Steps p.tables e below (T10.setTop (mkF m 72 #[.val (.int p1), .val (.int p2), .val (.int p3), .val (.int (p3 &&& (31 : Int32))), .val (.long (own_big p1 p3)), .second, .val (.long (own_ex p1 p2 p3)), .second, .val (.double (FP.l2d (own_big p1 p3))), .second, .val (.double (FP.i2d p2)), .second, .val (.ref b2), .val (.double (FP.l2d (own_ex p1 p2 p3))), .second, .unset, .unset, .unset, .unset] [(.long (FP.d2l (FP.l2d (own_ex p1 p2 p3))))])) _
      refine XS.lstore X10.here hx rfl (hb hby at_72) rfl (l' := #[.val (.int p1), .val (.int p2), .val (.int p3), .val (.int (p3 &&& (31 : Int32))), .val (.long (own_big p1 p3)), .second, .val (.long (own_ex p1 p2 p3)), .second, .val (.double (FP.l2d (own_big p1 p3))), .second, .val (.double (FP.i2d p2)), .second, .val (.ref b2), .val (.double (FP.l2d (own_ex p1 p2 p3))), .second, .val (.long (FP.d2l (FP.l2d (own_ex p1 p2 p3)))), .second, .unset, .unset]) rfl ?_
      show Steps p.tables e below (T10.setTop (mkF m 74 #[.val (.int p1), .val (.int p2), .val (.int p3), .val (.int (p3 &&& (31 : Int32))), .val (.long (own_big p1 p3)), .second, .val (.long (own_ex p1 p2 p3)), .second, .val (.double (FP.l2d (own_big p1 p3))), .second, .val (.double (FP.i2d p2)), .second, .val (.ref b2), .val (.double (FP.l2d (own_ex p1 p2 p3))), .second, .val (.long (FP.d2l (FP.l2d (own_ex p1 p2 p3)))), .second, .unset, .unset] [])) _
      refine XS.lload X10.here hx rfl (hb hby at_74) rfl ?_
      show Steps p.tables e below (T10.setTop (mkF m 76 #[.val (.int p1), .val (.int p2), .val (.int p3), .val (.int (p3 &&& (31 : Int32))), .val (.long (own_big p1 p3)), .second, .val (.long (own_ex p1 p2 p3)), .second, .val (.double (FP.l2d (own_big p1 p3))), .second, .val (.double (FP.i2d p2)), .second, .val (.ref b2), .val (.double (FP.l2d (own_ex p1 p2 p3))), .second, .val (.long (FP.d2l (FP.l2d (own_ex p1 p2 p3)))), .second, .unset, .unset] [(.long (own_ex p1 p2 p3))])) _
      refine XS.lload X10.here hx rfl (hb hby at_76) rfl ?_
      show Steps p.tables e below (T10.setTop (mkF m 78 #[.val (.int p1), .val (.int p2), .val (.int p3), .val (.int (p3 &&& (31 : Int32))), .val (.long (own_big p1 p3)), .second, .val (.long (own_ex p1 p2 p3)), .second, .val (.double (FP.l2d (own_big p1 p3))), .second, .val (.double (FP.i2d p2)), .second, .val (.ref b2), .val (.double (FP.l2d (own_ex p1 p2 p3))), .second, .val (.long (FP.d2l (FP.l2d (own_ex p1 p2 p3)))), .second, .unset, .unset] [(.long (FP.d2l (FP.l2d (own_ex p1 p2 p3)))), (.long (own_ex p1 p2 p3))])) _
      refine XS.lsub X10.here hx rfl (hb hby at_78) rfl ?_
      show Steps p.tables e below (T10.setTop (mkF m 79 #[.val (.int p1), .val (.int p2), .val (.int p3), .val (.int (p3 &&& (31 : Int32))), .val (.long (own_big p1 p3)), .second, .val (.long (own_ex p1 p2 p3)), .second, .val (.double (FP.l2d (own_big p1 p3))), .second, .val (.double (FP.i2d p2)), .second, .val (.ref b2), .val (.double (FP.l2d (own_ex p1 p2 p3))), .second, .val (.long (FP.d2l (FP.l2d (own_ex p1 p2 p3)))), .second, .unset, .unset] [(.long ((own_ex p1 p2 p3) - (FP.d2l (FP.l2d (own_ex p1 p2 p3)))))])) _
      refine XS.l2dS X10.here hx rfl (v := (FP.l2d ((own_ex p1 p2 p3) - (FP.d2l (FP.l2d (own_ex p1 p2 p3)))))) (hb hby at_79) rfl rfl ?_
      show Steps p.tables e below (T10.setTop (mkF m 80 #[.val (.int p1), .val (.int p2), .val (.int p3), .val (.int (p3 &&& (31 : Int32))), .val (.long (own_big p1 p3)), .second, .val (.long (own_ex p1 p2 p3)), .second, .val (.double (FP.l2d (own_big p1 p3))), .second, .val (.double (FP.i2d p2)), .second, .val (.ref b2), .val (.double (FP.l2d (own_ex p1 p2 p3))), .second, .val (.long (FP.d2l (FP.l2d (own_ex p1 p2 p3)))), .second, .unset, .unset] [(.double (FP.l2d ((own_ex p1 p2 p3) - (FP.d2l (FP.l2d (own_ex p1 p2 p3))))))])) _
      refine XS.dstore X10.here hx rfl (hb hby at_80) rfl (l' := #[.val (.int p1), .val (.int p2), .val (.int p3), .val (.int (p3 &&& (31 : Int32))), .val (.long (own_big p1 p3)), .second, .val (.long (own_ex p1 p2 p3)), .second, .val (.double (FP.l2d (own_big p1 p3))), .second, .val (.double (FP.i2d p2)), .second, .val (.ref b2), .val (.double (FP.l2d (own_ex p1 p2 p3))), .second, .val (.long (FP.d2l (FP.l2d (own_ex p1 p2 p3)))), .second, .val (.double (FP.l2d ((own_ex p1 p2 p3) - (FP.d2l (FP.l2d (own_ex p1 p2 p3)))))), .second]) rfl ?_
      show Steps p.tables e below (T10.setTop (mkF m 82 #[.val (.int p1), .val (.int p2), .val (.int p3), .val (.int (p3 &&& (31 : Int32))), .val (.long (own_big p1 p3)), .second, .val (.long (own_ex p1 p2 p3)), .second, .val (.double (FP.l2d (own_big p1 p3))), .second, .val (.double (FP.i2d p2)), .second, .val (.ref b2), .val (.double (FP.l2d (own_ex p1 p2 p3))), .second, .val (.long (FP.d2l (FP.l2d (own_ex p1 p2 p3)))), .second, .val (.double (FP.l2d ((own_ex p1 p2 p3) - (FP.d2l (FP.l2d (own_ex p1 p2 p3)))))), .second] [])) _
      refine XS.aload X10.here hx rfl (hb hby at_82) rfl rfl ?_
      exact kt
    obtain ⟨T15, X15, e15, st15⟩ := getF X10 hx hZ hown (host := "") (Or.inl (hw _ (List.mem_of_getElem? (i := 18) rfl))) Via.refl rfl f12 (g := (mkF m 84 #[.val (.int p1), .val (.int p2), .val (.int p3), .val (.int (p3 &&& (31 : Int32))), .val (.long (own_big p1 p3)), .second, .val (.long (own_ex p1 p2 p3)), .second, .val (.double (FP.l2d (own_big p1 p3))), .second, .val (.double (FP.i2d p2)), .second, .val (.ref b2), .val (.double (FP.l2d (own_ex p1 p2 p3))), .second, .val (.long (FP.d2l (FP.l2d (own_ex p1 p2 p3)))), .second, .val (.double (FP.l2d ((own_ex p1 p2 p3) - (FP.d2l (FP.l2d (own_ex p1 p2 p3)))))), .second] [(.ref b2)])) rfl rfl (hb hby at_84)
    have sg16 : ∀ target, Steps p.tables e below (T15.setTop (mkF m 95 #[.val (.int p1), .val (.int p2), .val (.int p3), .val (.int (p3 &&& (31 : Int32))), .val (.long (own_big p1 p3)), .second, .val (.long (own_ex p1 p2 p3)), .second, .val (.double (FP.l2d (own_big p1 p3))), .second, .val (.double (FP.i2d p2)), .second, .val (.ref b2), .val (.double (FP.l2d (own_ex p1 p2 p3))), .second, .val (.long (FP.d2l (FP.l2d (own_ex p1 p2 p3)))), .second, .val (.double (FP.l2d ((own_ex p1 p2 p3) - (FP.d2l (FP.l2d (own_ex p1 p2 p3)))))), .second] [(.ref b2)])) target → Steps p.tables e below (T15.setTop (mkF m 87 #[.val (.int p1), .val (.int p2), .val (.int p3), .val (.int (p3 &&& (31 : Int32))), .val (.long (own_big p1 p3)), .second, .val (.long (own_ex p1 p2 p3)), .second, .val (.double (FP.l2d (own_big p1 p3))), .second, .val (.double (FP.i2d p2)), .second, .val (.ref b2), .val (.double (FP.l2d (own_ex p1 p2 p3))), .second, .val (.long (FP.d2l (FP.l2d (own_ex p1 p2 p3)))), .second, .val (.double (FP.l2d ((own_ex p1 p2 p3) - (FP.d2l (FP.l2d (own_ex p1 p2 p3)))))), .second] [(.double (TWO.s1 (FP.l2d (own_big p1 p3)) (FP.i2d p2)))])) target := by
      intro target kt
      show Steps p.tables e below (T15.setTop (mkF m 87 #[.val (.int p1), .val (.int p2), .val (.int p3), .val (.int (p3 &&& (31 : Int32))), .val (.long (own_big p1 p3)), .second, .val (.long (own_ex p1 p2 p3)), .second, .val (.double (FP.l2d (own_big p1 p3))), .second, .val (.double (FP.i2d p2)), .second, .val (.ref b2), .val (.double (FP.l2d (own_ex p1 p2 p3))), .second, .val (.long (FP.d2l (FP.l2d (own_ex p1 p2 p3)))), .second, .val (.double (FP.l2d ((own_ex p1 p2 p3) - (FP.d2l (FP.l2d (own_ex p1 p2 p3)))))), .second] [(.double (TWO.s1 (FP.l2d (own_big p1 p3)) (FP.i2d p2)))])) _
      refine XS.dload X15.here hx rfl (hb hby at_87) rfl ?_
      show Steps p.tables e below (T15.setTop (mkF m 89 #[.val (.int p1), .val (.int p2), .val (.int p3), .val (.int (p3 &&& (31 : Int32))), .val (.long (own_big p1 p3)), .second, .val (.long (own_ex p1 p2 p3)), .second, .val (.double (FP.l2d (own_big p1 p3))), .second, .val (.double (FP.i2d p2)), .second, .val (.ref b2), .val (.double (FP.l2d (own_ex p1 p2 p3))), .second, .val (.long (FP.d2l (FP.l2d (own_ex p1 p2 p3)))), .second, .val (.double (FP.l2d ((own_ex p1 p2 p3) - (FP.d2l (FP.l2d (own_ex p1 p2 p3)))))), .second] [(.double (FP.l2d (own_ex p1 p2 p3))), (.double (TWO.s1 (FP.l2d (own_big p1 p3)) (FP.i2d p2)))])) _
      refine XS.dcmpS X15.here hx rfl (v := (0 : Int32)) (hb hby at_89) rfl k1 ?_
      show Steps p.tables e below (T15.setTop (mkF m 90 #[.val (.int p1), .val (.int p2), .val (.int p3), .val (.int (p3 &&& (31 : Int32))), .val (.long (own_big p1 p3)), .second, .val (.long (own_ex p1 p2 p3)), .second, .val (.double (FP.l2d (own_big p1 p3))), .second, .val (.double (FP.i2d p2)), .second, .val (.ref b2), .val (.double (FP.l2d (own_ex p1 p2 p3))), .second, .val (.long (FP.d2l (FP.l2d (own_ex p1 p2 p3)))), .second, .val (.double (FP.l2d ((own_ex p1 p2 p3) - (FP.d2l (FP.l2d (own_ex p1 p2 p3)))))), .second] [(.int (0 : Int32))])) _
      refine XS.ifNo X15.here hx rfl (hb hby at_90) rfl ((if0 _ _).trans (teq (by decide : (0 : Int32) = (0 : Int32))).2) ?_
      show Steps p.tables e below (T15.setTop (mkF m 93 #[.val (.int p1), .val (.int p2), .val (.int p3), .val (.int (p3 &&& (31 : Int32))), .val (.long (own_big p1 p3)), .second, .val (.long (own_ex p1 p2 p3)), .second, .val (.double (FP.l2d (own_big p1 p3))), .second, .val (.double (FP.i2d p2)), .second, .val (.ref b2), .val (.double (FP.l2d (own_ex p1 p2 p3))), .second, .val (.long (FP.d2l (FP.l2d (own_ex p1 p2 p3)))), .second, .val (.double (FP.l2d ((own_ex p1 p2 p3) - (FP.d2l (FP.l2d (own_ex p1 p2 p3)))))), .second] [])) _
      refine XS.aload X15.here hx rfl (hb hby at_93) rfl rfl ?_
      exact kt
    obtain ⟨T17, X17, e17, st17⟩ := getF X15 hx hZ hown (host := "") (Or.inl (hw _ (List.mem_of_getElem? (i := 19) rfl))) Via.refl e15 f13 (g := (mkF m 95 #[.val (.int p1), .val (.int p2), .val (.int p3), .val (.int (p3 &&& (31 : Int32))), .val (.long (own_big p1 p3)), .second, .val (.long (own_ex p1 p2 p3)), .second, .val (.double (FP.l2d (own_big p1 p3))), .second, .val (.double (FP.i2d p2)), .second, .val (.ref b2), .val (.double (FP.l2d (own_ex p1 p2 p3))), .second, .val (.long (FP.d2l (FP.l2d (own_ex p1 p2 p3)))), .second, .val (.double (FP.l2d ((own_ex p1 p2 p3) - (FP.d2l (FP.l2d (own_ex p1 p2 p3)))))), .second] [(.ref b2)])) rfl rfl (hb hby at_95)
    have sg18 : ∀ target, Steps p.tables e below (T17.setTop (mkF m 109 #[.val (.int p1), .val (.int p2), .val (.int p3), .val (.int (p3 &&& (31 : Int32))), .val (.long (own_big p1 p3)), .second, .val (.long (own_ex p1 p2 p3)), .second, .val (.double (FP.l2d (own_big p1 p3))), .second, .val (.double (FP.i2d p2)), .second, .val (.ref b2), .val (.double (FP.l2d (own_ex p1 p2 p3))), .second, .val (.long (FP.d2l (FP.l2d (own_ex p1 p2 p3)))), .second, .val (.double (FP.l2d ((own_ex p1 p2 p3) - (FP.d2l (FP.l2d (own_ex p1 p2 p3)))))), .second] [(.int (1 : Int32))])) target → Steps p.tables e below (T17.setTop (mkF m 98 #[.val (.int p1), .val (.int p2), .val (.int p3), .val (.int (p3 &&& (31 : Int32))), .val (.long (own_big p1 p3)), .second, .val (.long (own_ex p1 p2 p3)), .second, .val (.double (FP.l2d (own_big p1 p3))), .second, .val (.double (FP.i2d p2)), .second, .val (.ref b2), .val (.double (FP.l2d (own_ex p1 p2 p3))), .second, .val (.long (FP.d2l (FP.l2d (own_ex p1 p2 p3)))), .second, .val (.double (FP.l2d ((own_ex p1 p2 p3) - (FP.d2l (FP.l2d (own_ex p1 p2 p3)))))), .second] [(.double (TWO.s6 (FP.l2d (own_big p1 p3)) (FP.i2d p2)))])) target := by
      intro target kt
      show Steps p.tables e below (T17.setTop (mkF m 98 #[.val (.int p1), .val (.int p2), .val (.int p3), .val (.int (p3 &&& (31 : Int32))), .val (.long (own_big p1 p3)), .second, .val (.long (own_ex p1 p2 p3)), .second, .val (.double (FP.l2d (own_big p1 p3))), .second, .val (.double (FP.i2d p2)), .second, .val (.ref b2), .val (.double (FP.l2d (own_ex p1 p2 p3))), .second, .val (.long (FP.d2l (FP.l2d (own_ex p1 p2 p3)))), .second, .val (.double (FP.l2d ((own_ex p1 p2 p3) - (FP.d2l (FP.l2d (own_ex p1 p2 p3)))))), .second] [(.double (TWO.s6 (FP.l2d (own_big p1 p3)) (FP.i2d p2)))])) _
      refine XS.dload X17.here hx rfl (hb hby at_98) rfl ?_
      show Steps p.tables e below (T17.setTop (mkF m 100 #[.val (.int p1), .val (.int p2), .val (.int p3), .val (.int (p3 &&& (31 : Int32))), .val (.long (own_big p1 p3)), .second, .val (.long (own_ex p1 p2 p3)), .second, .val (.double (FP.l2d (own_big p1 p3))), .second, .val (.double (FP.i2d p2)), .second, .val (.ref b2), .val (.double (FP.l2d (own_ex p1 p2 p3))), .second, .val (.long (FP.d2l (FP.l2d (own_ex p1 p2 p3)))), .second, .val (.double (FP.l2d ((own_ex p1 p2 p3) - (FP.d2l (FP.l2d (own_ex p1 p2 p3)))))), .second] [(.double (FP.l2d ((own_ex p1 p2 p3) - (FP.d2l (FP.l2d (own_ex p1 p2 p3)))))), (.double (TWO.s6 (FP.l2d (own_big p1 p3)) (FP.i2d p2)))])) _
      refine XS.dcmpS X17.here hx rfl (v := (0 : Int32)) (hb hby at_100) rfl k2 ?_
      show Steps p.tables e below (T17.setTop (mkF m 101 #[.val (.int p1), .val (.int p2), .val (.int p3), .val (.int (p3 &&& (31 : Int32))), .val (.long (own_big p1 p3)), .second, .val (.long (own_ex p1 p2 p3)), .second, .val (.double (FP.l2d (own_big p1 p3))), .second, .val (.double (FP.i2d p2)), .second, .val (.ref b2), .val (.double (FP.l2d (own_ex p1 p2 p3))), .second, .val (.long (FP.d2l (FP.l2d (own_ex p1 p2 p3)))), .second, .val (.double (FP.l2d ((own_ex p1 p2 p3) - (FP.d2l (FP.l2d (own_ex p1 p2 p3)))))), .second] [(.int (0 : Int32))])) _
      refine XS.ifNo X17.here hx rfl (hb hby at_101) rfl ((if0 _ _).trans (teq (by decide : (0 : Int32) = (0 : Int32))).2) ?_
      show Steps p.tables e below (T17.setTop (mkF m 104 #[.val (.int p1), .val (.int p2), .val (.int p3), .val (.int (p3 &&& (31 : Int32))), .val (.long (own_big p1 p3)), .second, .val (.long (own_ex p1 p2 p3)), .second, .val (.double (FP.l2d (own_big p1 p3))), .second, .val (.double (FP.i2d p2)), .second, .val (.ref b2), .val (.double (FP.l2d (own_ex p1 p2 p3))), .second, .val (.long (FP.d2l (FP.l2d (own_ex p1 p2 p3)))), .second, .val (.double (FP.l2d ((own_ex p1 p2 p3) - (FP.d2l (FP.l2d (own_ex p1 p2 p3)))))), .second] [])) _
      refine XS.iconst X17.here hx rfl (hb hby at_104) ?_
      show Steps p.tables e below (T17.setTop (mkF m 105 #[.val (.int p1), .val (.int p2), .val (.int p3), .val (.int (p3 &&& (31 : Int32))), .val (.long (own_big p1 p3)), .second, .val (.long (own_ex p1 p2 p3)), .second, .val (.double (FP.l2d (own_big p1 p3))), .second, .val (.double (FP.i2d p2)), .second, .val (.ref b2), .val (.double (FP.l2d (own_ex p1 p2 p3))), .second, .val (.long (FP.d2l (FP.l2d (own_ex p1 p2 p3)))), .second, .val (.double (FP.l2d ((own_ex p1 p2 p3) - (FP.d2l (FP.l2d (own_ex p1 p2 p3)))))), .second] [(.int (1 : Int32))])) _
      refine XS.goto X17.here hx rfl (pc0 := 105) (pc' := 109) rfl (hb hby at_105) (by decide) (by decide) ?_
      exact kt
    obtain ⟨fs, hr, hrun, hended, hW, hsame⟩ := X17.leave (v := some (.int (1 : Int32))) (fun h => by rw [Bd.returns] at h; cases h)
    refine ⟨_, _, pre0 _ ?_, hrun, hended, _, _, rfl, ?_, ⟨_, rfl⟩, hW, hsame.mono (by decide) (by decide)⟩
    · show Steps p.tables e below (s₁.setTop (mkF m 0 #[.val (.int p1), .val (.int p2), .val (.int p3), .unset, .unset, .unset, .unset, .unset, .unset, .unset, .unset, .unset, .unset, .unset, .unset, .unset, .unset, .unset, .unset] [])) _
      refine sg1 _ ?_
      refine st2 _ ?_
      refine sg6 _ ?_
      refine st7.trans ?_
      refine sg8 _ ?_
      refine sg9 _ ?_
      refine st10.trans ?_
      refine sg14 _ ?_
      refine st15 _ ?_
      refine sg16 _ ?_
      refine st17 _ ?_
      refine sg18 _ ?_
      show Steps p.tables e below (T17.setTop (mkF m 109 #[.val (.int p1), .val (.int p2), .val (.int p3), .val (.int (p3 &&& (31 : Int32))), .val (.long (own_big p1 p3)), .second, .val (.long (own_ex p1 p2 p3)), .second, .val (.double (FP.l2d (own_big p1 p3))), .second, .val (.double (FP.i2d p2)), .second, .val (.ref b2), .val (.double (FP.l2d (own_ex p1 p2 p3))), .second, .val (.long (FP.d2l (FP.l2d (own_ex p1 p2 p3)))), .second, .val (.double (FP.l2d ((own_ex p1 p2 p3) - (FP.d2l (FP.l2d (own_ex p1 p2 p3)))))), .second] [(.int (1 : Int32))])) _
      exact retN X17 hx (t := .boolean) Bd.returns (by simp) (hb hby at_109) hr
    · show Q_rm0 Z p1 p2 p3 h0 n0 _ T17.heap _
      rw [e17]
      exact ⟨rfl, N10⟩
  · obtain ⟨k1, k2, m1, m2, m3, m4, m5, m6⟩ := own_law p1 p2 p3 _ _ (Or.inr ⟨rfl, rfl⟩)
    have sg19 : ∀ target, Steps p.tables e below (T7.setTop (mkF m 49 #[.val (.int p1), .val (.int p2), .val (.int p3), .val (.int (p3 &&& (31 : Int32))), .val (.long (own_big p1 p3)), .second, .val (.long (own_ex p1 p2 p3)), .second, .val (.double (FP.l2d (own_big p1 p3))), .second, .val (.double (FP.i2d p2)), .second, .val (.ref b2), .unset, .unset, .unset, .unset, .unset, .unset] [(.double (FP.l2d (own_big p1 p3))), (.double (FP.i2d p2)), (.ref b2)])) target → Steps p.tables e below (T7.setTop (mkF m 40 #[.val (.int p1), .val (.int p2), .val (.int p3), .val (.int (p3 &&& (31 : Int32))), .val (.long (own_big p1 p3)), .second, .val (.long (own_ex p1 p2 p3)), .second, .val (.double (FP.l2d (own_big p1 p3))), .second, .val (.double (FP.i2d p2)), .second, .val (.ref b2), .unset, .unset, .unset, .unset, .unset, .unset] [(.int (p3 &&& (32 : Int32)))])) target := by
      intro target kt
      show Steps p.tables e below (T7.setTop (mkF m 40 #[.val (.int p1), .val (.int p2), .val (.int p3), .val (.int (p3 &&& (31 : Int32))), .val (.long (own_big p1 p3)), .second, .val (.long (own_ex p1 p2 p3)), .second, .val (.double (FP.l2d (own_big p1 p3))), .second, .val (.double (FP.i2d p2)), .second, .val (.ref b2), .unset, .unset, .unset, .unset, .unset, .unset] [(.int (p3 &&& (32 : Int32)))])) _
      refine XS.ifNo X7.here hx rfl (hb hby at_40) rfl ((if0 _ _).trans (feq (hk : ¬ ((p3 &&& (32 : Int32)) = (0 : Int32)))).1) ?_
      show Steps p.tables e below (T7.setTop (mkF m 43 #[.val (.int p1), .val (.int p2), .val (.int p3), .val (.int (p3 &&& (31 : Int32))), .val (.long (own_big p1 p3)), .second, .val (.long (own_ex p1 p2 p3)), .second, .val (.double (FP.l2d (own_big p1 p3))), .second, .val (.double (FP.i2d p2)), .second, .val (.ref b2), .unset, .unset, .unset, .unset, .unset, .unset] [])) _
      refine XS.aload X7.here hx rfl (hb hby at_43) rfl rfl ?_
      show Steps p.tables e below (T7.setTop (mkF m 45 #[.val (.int p1), .val (.int p2), .val (.int p3), .val (.int (p3 &&& (31 : Int32))), .val (.long (own_big p1 p3)), .second, .val (.long (own_ex p1 p2 p3)), .second, .val (.double (FP.l2d (own_big p1 p3))), .second, .val (.double (FP.i2d p2)), .second, .val (.ref b2), .unset, .unset, .unset, .unset, .unset, .unset] [(.ref b2)])) _
      refine XS.dload X7.here hx rfl (hb hby at_45) rfl ?_
      show Steps p.tables e below (T7.setTop (mkF m 47 #[.val (.int p1), .val (.int p2), .val (.int p3), .val (.int (p3 &&& (31 : Int32))), .val (.long (own_big p1 p3)), .second, .val (.long (own_ex p1 p2 p3)), .second, .val (.double (FP.l2d (own_big p1 p3))), .second, .val (.double (FP.i2d p2)), .second, .val (.ref b2), .unset, .unset, .unset, .unset, .unset, .unset] [(.double (FP.i2d p2)), (.ref b2)])) _
      refine XS.dload X7.here hx rfl (hb hby at_47) rfl ?_
      exact kt
    obtain ⟨cq20, kq20, q20a, q20b, q20c⟩ := isOf hZ c7_0 f3
    obtain ⟨_, _, ⟨T20, L20, k20, n20⟩, -, X20, ⟨Lc20, hQ20, l20, y20, z20⟩, st20⟩ := X7.virtualBack hx (y := (⟨"com/example/mulberry/mulberry/DoubleWord", "setSum", "(DD)V"⟩ : MethodName)) (z := (⟨"com/example/mulberry/mulberry/DoubleWord", "setSum", "(DD)V"⟩ : MethodName)) hown (mvT hZ (hw _ (List.mem_of_getElem? (i := 9) rfl))) (mvT hZ (hw _ (List.mem_of_getElem? (i := 10) rfl))) (notFace_of_selects (args := #[]) (mvT hZ (hw _ (List.mem_of_getElem? (i := 12) rfl)))) (mvT hZ (hw _ (List.mem_of_getElem? (i := 12) rfl))) (mvT hZ (hw _ (List.mem_of_getElem? (i := 11) rfl))) (by decide) (backOf (W := 0) (rm3 l Z a0 hw [] b2 (FP.i2d p2) (FP.l2d (own_big p1 p3)) (0 : UInt64) (0 : UInt64) h2 n0 Zs2 f3 f5 f4 g_b2 m1 m2 m3 m4 m5 m6) hZ (hw _ (List.mem_of_getElem? (i := 13) rfl)) (hw _ (List.mem_of_getElem? (i := 2) rfl)) (by decide) (by decide)) q20a q20c (g := (mkF m 49 #[.val (.int p1), .val (.int p2), .val (.int p3), .val (.int (p3 &&& (31 : Int32))), .val (.long (own_big p1 p3)), .second, .val (.long (own_ex p1 p2 p3)), .second, .val (.double (FP.l2d (own_big p1 p3))), .second, .val (.double (FP.i2d p2)), .second, .val (.ref b2), .unset, .unset, .unset, .unset, .unset, .unset] [(.double (FP.l2d (own_big p1 p3))), (.double (FP.i2d p2)), (.ref b2)])) rfl (by rw [hml]; rfl) (Steps.refl _) (argsL := [(.double (FP.i2d p2)), (.double (FP.l2d (own_big p1 p3)))]) (rest := []) (lenOf pd_2 rfl) rfl (by show 2 * 0 + _ ≤ _; exact Nat.le_of_eq rfl) (hb hby at_49) (fun _ _ => ⟨rfl, c7_0, (by decide : 1 + 0 ≤ _), (by decide : 2 + 0 ≤ _)⟩)
    dsimp only [Pt.U, Pt.locs, Pt.cells, Pt.slots] at X20 l20 y20 z20 st20 hQ20
    subst l20 y20 z20
    obtain ⟨rfl, N20q, c20_0, c20_1, c20_2, c20_3⟩ := hQ20
    have N20 := Fr.app N7 N20q
    have Zs20 : n0 ≤ T20.heap.size := Nat.le_trans Zs2 c20_0.1
    have f21 : Exa Z T20.heap b2 "com/example/mulberry/mulberry/DoubleWord" := c20_1
    have f22 : Fld Z T20.heap b2 "com/example/mulberry/mulberry/DoubleWord" "hi" "D" (.double (TWO.s1 (FP.i2d p2) (FP.l2d (own_big p1 p3)))) := c20_2
    have f23 : Fld Z T20.heap b2 "com/example/mulberry/mulberry/DoubleWord" "lo" "D" (.double (TWO.s6 (FP.i2d p2) (FP.l2d (own_big p1 p3)))) := c20_3
    have sg24 : ∀ target, Steps p.tables e below (T20.setTop (mkF m 84 #[.val (.int p1), .val (.int p2), .val (.int p3), .val (.int (p3 &&& (31 : Int32))), .val (.long (own_big p1 p3)), .second, .val (.long (own_ex p1 p2 p3)), .second, .val (.double (FP.l2d (own_big p1 p3))), .second, .val (.double (FP.i2d p2)), .second, .val (.ref b2), .val (.double (FP.l2d (own_ex p1 p2 p3))), .second, .val (.long (FP.d2l (FP.l2d (own_ex p1 p2 p3)))), .second, .val (.double (FP.l2d ((own_ex p1 p2 p3) - (FP.d2l (FP.l2d (own_ex p1 p2 p3)))))), .second] [(.ref b2)])) target → Steps p.tables e below (T20.setTop (mkF m 52 #[.val (.int p1), .val (.int p2), .val (.int p3), .val (.int (p3 &&& (31 : Int32))), .val (.long (own_big p1 p3)), .second, .val (.long (own_ex p1 p2 p3)), .second, .val (.double (FP.l2d (own_big p1 p3))), .second, .val (.double (FP.i2d p2)), .second, .val (.ref b2), .unset, .unset, .unset, .unset, .unset, .unset] [])) target := by
      intro target kt
      show Steps p.tables e below (T20.setTop (mkF m 52 #[.val (.int p1), .val (.int p2), .val (.int p3), .val (.int (p3 &&& (31 : Int32))), .val (.long (own_big p1 p3)), .second, .val (.long (own_ex p1 p2 p3)), .second, .val (.double (FP.l2d (own_big p1 p3))), .second, .val (.double (FP.i2d p2)), .second, .val (.ref b2), .unset, .unset, .unset, .unset, .unset, .unset] [])) _
      refine XS.goto X20.here hx rfl (pc0 := 52) (pc' := 64) rfl (hb hby at_52) (by decide) (by decide) ?_
      show Steps p.tables e below (T20.setTop (mkF m 64 #[.val (.int p1), .val (.int p2), .val (.int p3), .val (.int (p3 &&& (31 : Int32))), .val (.long (own_big p1 p3)), .second, .val (.long (own_ex p1 p2 p3)), .second, .val (.double (FP.l2d (own_big p1 p3))), .second, .val (.double (FP.i2d p2)), .second, .val (.ref b2), .unset, .unset, .unset, .unset, .unset, .unset] [])) _
      refine XS.lload X20.here hx rfl (hb hby at_64) rfl ?_
      show Steps p.tables e below (T20.setTop (mkF m 66 #[.val (.int p1), .val (.int p2), .val (.int p3), .val (.int (p3 &&& (31 : Int32))), .val (.long (own_big p1 p3)), .second, .val (.long (own_ex p1 p2 p3)), .second, .val (.double (FP.l2d (own_big p1 p3))), .second, .val (.double (FP.i2d p2)), .second, .val (.ref b2), .unset, .unset, .unset, .unset, .unset, .unset] [(.long (own_ex p1 p2 p3))])) _
      refine XS.l2dS X20.here hx rfl (v := (FP.l2d (own_ex p1 p2 p3))) (hb hby at_66) rfl rfl ?_
      show Steps p.tables e below (T20.setTop (mkF m 67 #[.val (.int p1), .val (.int p2), .val (.int p3), .val (.int (p3 &&& (31 : Int32))), .val (.long (own_big p1 p3)), .second, .val (.long (own_ex p1 p2 p3)), .second, .val (.double (FP.l2d (own_big p1 p3))), .second, .val (.double (FP.i2d p2)), .second, .val (.ref b2), .unset, .unset, .unset, .unset, .unset, .unset] [(.double (FP.l2d (own_ex p1 p2 p3)))])) _
      refine XS.dstore X20.here hx rfl (hb hby at_67) rfl (l' := #[.val (.int p1), .val (.int p2), .val (.int p3), .val (.int (p3 &&& (31 : Int32))), .val (.long (own_big p1 p3)), .second, .val (.long (own_ex p1 p2 p3)), .second, .val (.double (FP.l2d (own_big p1 p3))), .second, .val (.double (FP.i2d p2)), .second, .val (.ref b2), .val (.double (FP.l2d (own_ex p1 p2 p3))), .second, .unset, .unset, .unset, .unset]) rfl ?_
      show Steps p.tables e below (T20.setTop (mkF m 69 #[.val (.int p1), .val (.int p2), .val (.int p3), .val (.int (p3 &&& (31 : Int32))), .val (.long (own_big p1 p3)), .second, .val (.long (own_ex p1 p2 p3)), .second, .val (.double (FP.l2d (own_big p1 p3))), .second, .val (.double (FP.i2d p2)), .second, .val (.ref b2), .val (.double (FP.l2d (own_ex p1 p2 p3))), .second, .unset, .unset, .unset, .unset] [])) _
      refine XS.dload X20.here hx rfl (hb hby at_69) rfl ?_
      show Steps p.tables e below (T20.setTop (mkF m 71 #[.val (.int p1), .val (.int p2), .val (.int p3), .val (.int (p3 &&& (31 : Int32))), .val (.long (own_big p1 p3)), .second, .val (.long (own_ex p1 p2 p3)), .second, .val (.double (FP.l2d (own_big p1 p3))), .second, .val (.double (FP.i2d p2)), .second, .val (.ref b2), .val (.double (FP.l2d (own_ex p1 p2 p3))), .second, .unset, .unset, .unset, .unset] [(.double (FP.l2d (own_ex p1 p2 p3)))])) _
      refine XS.d2lS X20.here hx rfl (v := (FP.d2l (FP.l2d (own_ex p1 p2 p3)))) (hb hby at_71) rfl rfl ?_
      show Steps p.tables e below (T20.setTop (mkF m 72 #[.val (.int p1), .val (.int p2), .val (.int p3), .val (.int (p3 &&& (31 : Int32))), .val (.long (own_big p1 p3)), .second, .val (.long (own_ex p1 p2 p3)), .second, .val (.double (FP.l2d (own_big p1 p3))), .second, .val (.double (FP.i2d p2)), .second, .val (.ref b2), .val (.double (FP.l2d (own_ex p1 p2 p3))), .second, .unset, .unset, .unset, .unset] [(.long (FP.d2l (FP.l2d (own_ex p1 p2 p3))))])) _
      refine XS.lstore X20.here hx rfl (hb hby at_72) rfl (l' := #[.val (.int p1), .val (.int p2), .val (.int p3), .val (.int (p3 &&& (31 : Int32))), .val (.long (own_big p1 p3)), .second, .val (.long (own_ex p1 p2 p3)), .second, .val (.double (FP.l2d (own_big p1 p3))), .second, .val (.double (FP.i2d p2)), .second, .val (.ref b2), .val (.double (FP.l2d (own_ex p1 p2 p3))), .second, .val (.long (FP.d2l (FP.l2d (own_ex p1 p2 p3)))), .second, .unset, .unset]) rfl ?_
      show Steps p.tables e below (T20.setTop (mkF m 74 #[.val (.int p1), .val (.int p2), .val (.int p3), .val (.int (p3 &&& (31 : Int32))), .val (.long (own_big p1 p3)), .second, .val (.long (own_ex p1 p2 p3)), .second, .val (.double (FP.l2d (own_big p1 p3))), .second, .val (.double (FP.i2d p2)), .second, .val (.ref b2), .val (.double (FP.l2d (own_ex p1 p2 p3))), .second, .val (.long (FP.d2l (FP.l2d (own_ex p1 p2 p3)))), .second, .unset, .unset] [])) _
      refine XS.lload X20.here hx rfl (hb hby at_74) rfl ?_
      show Steps p.tables e below (T20.setTop (mkF m 76 #[.val (.int p1), .val (.int p2), .val (.int p3), .val (.int (p3 &&& (31 : Int32))), .val (.long (own_big p1 p3)), .second, .val (.long (own_ex p1 p2 p3)), .second, .val (.double (FP.l2d (own_big p1 p3))), .second, .val (.double (FP.i2d p2)), .second, .val (.ref b2), .val (.double (FP.l2d (own_ex p1 p2 p3))), .second, .val (.long (FP.d2l (FP.l2d (own_ex p1 p2 p3)))), .second, .unset, .unset] [(.long (own_ex p1 p2 p3))])) _
      refine XS.lload X20.here hx rfl (hb hby at_76) rfl ?_
      show Steps p.tables e below (T20.setTop (mkF m 78 #[.val (.int p1), .val (.int p2), .val (.int p3), .val (.int (p3 &&& (31 : Int32))), .val (.long (own_big p1 p3)), .second, .val (.long (own_ex p1 p2 p3)), .second, .val (.double (FP.l2d (own_big p1 p3))), .second, .val (.double (FP.i2d p2)), .second, .val (.ref b2), .val (.double (FP.l2d (own_ex p1 p2 p3))), .second, .val (.long (FP.d2l (FP.l2d (own_ex p1 p2 p3)))), .second, .unset, .unset] [(.long (FP.d2l (FP.l2d (own_ex p1 p2 p3)))), (.long (own_ex p1 p2 p3))])) _
      refine XS.lsub X20.here hx rfl (hb hby at_78) rfl ?_
      show Steps p.tables e below (T20.setTop (mkF m 79 #[.val (.int p1), .val (.int p2), .val (.int p3), .val (.int (p3 &&& (31 : Int32))), .val (.long (own_big p1 p3)), .second, .val (.long (own_ex p1 p2 p3)), .second, .val (.double (FP.l2d (own_big p1 p3))), .second, .val (.double (FP.i2d p2)), .second, .val (.ref b2), .val (.double (FP.l2d (own_ex p1 p2 p3))), .second, .val (.long (FP.d2l (FP.l2d (own_ex p1 p2 p3)))), .second, .unset, .unset] [(.long ((own_ex p1 p2 p3) - (FP.d2l (FP.l2d (own_ex p1 p2 p3)))))])) _
      refine XS.l2dS X20.here hx rfl (v := (FP.l2d ((own_ex p1 p2 p3) - (FP.d2l (FP.l2d (own_ex p1 p2 p3)))))) (hb hby at_79) rfl rfl ?_
      show Steps p.tables e below (T20.setTop (mkF m 80 #[.val (.int p1), .val (.int p2), .val (.int p3), .val (.int (p3 &&& (31 : Int32))), .val (.long (own_big p1 p3)), .second, .val (.long (own_ex p1 p2 p3)), .second, .val (.double (FP.l2d (own_big p1 p3))), .second, .val (.double (FP.i2d p2)), .second, .val (.ref b2), .val (.double (FP.l2d (own_ex p1 p2 p3))), .second, .val (.long (FP.d2l (FP.l2d (own_ex p1 p2 p3)))), .second, .unset, .unset] [(.double (FP.l2d ((own_ex p1 p2 p3) - (FP.d2l (FP.l2d (own_ex p1 p2 p3))))))])) _
      refine XS.dstore X20.here hx rfl (hb hby at_80) rfl (l' := #[.val (.int p1), .val (.int p2), .val (.int p3), .val (.int (p3 &&& (31 : Int32))), .val (.long (own_big p1 p3)), .second, .val (.long (own_ex p1 p2 p3)), .second, .val (.double (FP.l2d (own_big p1 p3))), .second, .val (.double (FP.i2d p2)), .second, .val (.ref b2), .val (.double (FP.l2d (own_ex p1 p2 p3))), .second, .val (.long (FP.d2l (FP.l2d (own_ex p1 p2 p3)))), .second, .val (.double (FP.l2d ((own_ex p1 p2 p3) - (FP.d2l (FP.l2d (own_ex p1 p2 p3)))))), .second]) rfl ?_
      show Steps p.tables e below (T20.setTop (mkF m 82 #[.val (.int p1), .val (.int p2), .val (.int p3), .val (.int (p3 &&& (31 : Int32))), .val (.long (own_big p1 p3)), .second, .val (.long (own_ex p1 p2 p3)), .second, .val (.double (FP.l2d (own_big p1 p3))), .second, .val (.double (FP.i2d p2)), .second, .val (.ref b2), .val (.double (FP.l2d (own_ex p1 p2 p3))), .second, .val (.long (FP.d2l (FP.l2d (own_ex p1 p2 p3)))), .second, .val (.double (FP.l2d ((own_ex p1 p2 p3) - (FP.d2l (FP.l2d (own_ex p1 p2 p3)))))), .second] [])) _
      refine XS.aload X20.here hx rfl (hb hby at_82) rfl rfl ?_
      exact kt
    obtain ⟨T25, X25, e25, st25⟩ := getF X20 hx hZ hown (host := "") (Or.inl (hw _ (List.mem_of_getElem? (i := 18) rfl))) Via.refl rfl f22 (g := (mkF m 84 #[.val (.int p1), .val (.int p2), .val (.int p3), .val (.int (p3 &&& (31 : Int32))), .val (.long (own_big p1 p3)), .second, .val (.long (own_ex p1 p2 p3)), .second, .val (.double (FP.l2d (own_big p1 p3))), .second, .val (.double (FP.i2d p2)), .second, .val (.ref b2), .val (.double (FP.l2d (own_ex p1 p2 p3))), .second, .val (.long (FP.d2l (FP.l2d (own_ex p1 p2 p3)))), .second, .val (.double (FP.l2d ((own_ex p1 p2 p3) - (FP.d2l (FP.l2d (own_ex p1 p2 p3)))))), .second] [(.ref b2)])) rfl rfl (hb hby at_84)
    have sg26 : ∀ target, Steps p.tables e below (T25.setTop (mkF m 95 #[.val (.int p1), .val (.int p2), .val (.int p3), .val (.int (p3 &&& (31 : Int32))), .val (.long (own_big p1 p3)), .second, .val (.long (own_ex p1 p2 p3)), .second, .val (.double (FP.l2d (own_big p1 p3))), .second, .val (.double (FP.i2d p2)), .second, .val (.ref b2), .val (.double (FP.l2d (own_ex p1 p2 p3))), .second, .val (.long (FP.d2l (FP.l2d (own_ex p1 p2 p3)))), .second, .val (.double (FP.l2d ((own_ex p1 p2 p3) - (FP.d2l (FP.l2d (own_ex p1 p2 p3)))))), .second] [(.ref b2)])) target → Steps p.tables e below (T25.setTop (mkF m 87 #[.val (.int p1), .val (.int p2), .val (.int p3), .val (.int (p3 &&& (31 : Int32))), .val (.long (own_big p1 p3)), .second, .val (.long (own_ex p1 p2 p3)), .second, .val (.double (FP.l2d (own_big p1 p3))), .second, .val (.double (FP.i2d p2)), .second, .val (.ref b2), .val (.double (FP.l2d (own_ex p1 p2 p3))), .second, .val (.long (FP.d2l (FP.l2d (own_ex p1 p2 p3)))), .second, .val (.double (FP.l2d ((own_ex p1 p2 p3) - (FP.d2l (FP.l2d (own_ex p1 p2 p3)))))), .second] [(.double (TWO.s1 (FP.i2d p2) (FP.l2d (own_big p1 p3))))])) target := by
      intro target kt
      show Steps p.tables e below (T25.setTop (mkF m 87 #[.val (.int p1), .val (.int p2), .val (.int p3), .val (.int (p3 &&& (31 : Int32))), .val (.long (own_big p1 p3)), .second, .val (.long (own_ex p1 p2 p3)), .second, .val (.double (FP.l2d (own_big p1 p3))), .second, .val (.double (FP.i2d p2)), .second, .val (.ref b2), .val (.double (FP.l2d (own_ex p1 p2 p3))), .second, .val (.long (FP.d2l (FP.l2d (own_ex p1 p2 p3)))), .second, .val (.double (FP.l2d ((own_ex p1 p2 p3) - (FP.d2l (FP.l2d (own_ex p1 p2 p3)))))), .second] [(.double (TWO.s1 (FP.i2d p2) (FP.l2d (own_big p1 p3))))])) _
      refine XS.dload X25.here hx rfl (hb hby at_87) rfl ?_
      show Steps p.tables e below (T25.setTop (mkF m 89 #[.val (.int p1), .val (.int p2), .val (.int p3), .val (.int (p3 &&& (31 : Int32))), .val (.long (own_big p1 p3)), .second, .val (.long (own_ex p1 p2 p3)), .second, .val (.double (FP.l2d (own_big p1 p3))), .second, .val (.double (FP.i2d p2)), .second, .val (.ref b2), .val (.double (FP.l2d (own_ex p1 p2 p3))), .second, .val (.long (FP.d2l (FP.l2d (own_ex p1 p2 p3)))), .second, .val (.double (FP.l2d ((own_ex p1 p2 p3) - (FP.d2l (FP.l2d (own_ex p1 p2 p3)))))), .second] [(.double (FP.l2d (own_ex p1 p2 p3))), (.double (TWO.s1 (FP.i2d p2) (FP.l2d (own_big p1 p3))))])) _
      refine XS.dcmpS X25.here hx rfl (v := (0 : Int32)) (hb hby at_89) rfl k1 ?_
      show Steps p.tables e below (T25.setTop (mkF m 90 #[.val (.int p1), .val (.int p2), .val (.int p3), .val (.int (p3 &&& (31 : Int32))), .val (.long (own_big p1 p3)), .second, .val (.long (own_ex p1 p2 p3)), .second, .val (.double (FP.l2d (own_big p1 p3))), .second, .val (.double (FP.i2d p2)), .second, .val (.ref b2), .val (.double (FP.l2d (own_ex p1 p2 p3))), .second, .val (.long (FP.d2l (FP.l2d (own_ex p1 p2 p3)))), .second, .val (.double (FP.l2d ((own_ex p1 p2 p3) - (FP.d2l (FP.l2d (own_ex p1 p2 p3)))))), .second] [(.int (0 : Int32))])) _
      refine XS.ifNo X25.here hx rfl (hb hby at_90) rfl ((if0 _ _).trans (teq (by decide : (0 : Int32) = (0 : Int32))).2) ?_
      show Steps p.tables e below (T25.setTop (mkF m 93 #[.val (.int p1), .val (.int p2), .val (.int p3), .val (.int (p3 &&& (31 : Int32))), .val (.long (own_big p1 p3)), .second, .val (.long (own_ex p1 p2 p3)), .second, .val (.double (FP.l2d (own_big p1 p3))), .second, .val (.double (FP.i2d p2)), .second, .val (.ref b2), .val (.double (FP.l2d (own_ex p1 p2 p3))), .second, .val (.long (FP.d2l (FP.l2d (own_ex p1 p2 p3)))), .second, .val (.double (FP.l2d ((own_ex p1 p2 p3) - (FP.d2l (FP.l2d (own_ex p1 p2 p3)))))), .second] [])) _
      refine XS.aload X25.here hx rfl (hb hby at_93) rfl rfl ?_
      exact kt
    obtain ⟨T27, X27, e27, st27⟩ := getF X25 hx hZ hown (host := "") (Or.inl (hw _ (List.mem_of_getElem? (i := 19) rfl))) Via.refl e25 f23 (g := (mkF m 95 #[.val (.int p1), .val (.int p2), .val (.int p3), .val (.int (p3 &&& (31 : Int32))), .val (.long (own_big p1 p3)), .second, .val (.long (own_ex p1 p2 p3)), .second, .val (.double (FP.l2d (own_big p1 p3))), .second, .val (.double (FP.i2d p2)), .second, .val (.ref b2), .val (.double (FP.l2d (own_ex p1 p2 p3))), .second, .val (.long (FP.d2l (FP.l2d (own_ex p1 p2 p3)))), .second, .val (.double (FP.l2d ((own_ex p1 p2 p3) - (FP.d2l (FP.l2d (own_ex p1 p2 p3)))))), .second] [(.ref b2)])) rfl rfl (hb hby at_95)
    have sg28 : ∀ target, Steps p.tables e below (T27.setTop (mkF m 109 #[.val (.int p1), .val (.int p2), .val (.int p3), .val (.int (p3 &&& (31 : Int32))), .val (.long (own_big p1 p3)), .second, .val (.long (own_ex p1 p2 p3)), .second, .val (.double (FP.l2d (own_big p1 p3))), .second, .val (.double (FP.i2d p2)), .second, .val (.ref b2), .val (.double (FP.l2d (own_ex p1 p2 p3))), .second, .val (.long (FP.d2l (FP.l2d (own_ex p1 p2 p3)))), .second, .val (.double (FP.l2d ((own_ex p1 p2 p3) - (FP.d2l (FP.l2d (own_ex p1 p2 p3)))))), .second] [(.int (1 : Int32))])) target → Steps p.tables e below (T27.setTop (mkF m 98 #[.val (.int p1), .val (.int p2), .val (.int p3), .val (.int (p3 &&& (31 : Int32))), .val (.long (own_big p1 p3)), .second, .val (.long (own_ex p1 p2 p3)), .second, .val (.double (FP.l2d (own_big p1 p3))), .second, .val (.double (FP.i2d p2)), .second, .val (.ref b2), .val (.double (FP.l2d (own_ex p1 p2 p3))), .second, .val (.long (FP.d2l (FP.l2d (own_ex p1 p2 p3)))), .second, .val (.double (FP.l2d ((own_ex p1 p2 p3) - (FP.d2l (FP.l2d (own_ex p1 p2 p3)))))), .second] [(.double (TWO.s6 (FP.i2d p2) (FP.l2d (own_big p1 p3))))])) target := by
      intro target kt
      show Steps p.tables e below (T27.setTop (mkF m 98 #[.val (.int p1), .val (.int p2), .val (.int p3), .val (.int (p3 &&& (31 : Int32))), .val (.long (own_big p1 p3)), .second, .val (.long (own_ex p1 p2 p3)), .second, .val (.double (FP.l2d (own_big p1 p3))), .second, .val (.double (FP.i2d p2)), .second, .val (.ref b2), .val (.double (FP.l2d (own_ex p1 p2 p3))), .second, .val (.long (FP.d2l (FP.l2d (own_ex p1 p2 p3)))), .second, .val (.double (FP.l2d ((own_ex p1 p2 p3) - (FP.d2l (FP.l2d (own_ex p1 p2 p3)))))), .second] [(.double (TWO.s6 (FP.i2d p2) (FP.l2d (own_big p1 p3))))])) _
      refine XS.dload X27.here hx rfl (hb hby at_98) rfl ?_
      show Steps p.tables e below (T27.setTop (mkF m 100 #[.val (.int p1), .val (.int p2), .val (.int p3), .val (.int (p3 &&& (31 : Int32))), .val (.long (own_big p1 p3)), .second, .val (.long (own_ex p1 p2 p3)), .second, .val (.double (FP.l2d (own_big p1 p3))), .second, .val (.double (FP.i2d p2)), .second, .val (.ref b2), .val (.double (FP.l2d (own_ex p1 p2 p3))), .second, .val (.long (FP.d2l (FP.l2d (own_ex p1 p2 p3)))), .second, .val (.double (FP.l2d ((own_ex p1 p2 p3) - (FP.d2l (FP.l2d (own_ex p1 p2 p3)))))), .second] [(.double (FP.l2d ((own_ex p1 p2 p3) - (FP.d2l (FP.l2d (own_ex p1 p2 p3)))))), (.double (TWO.s6 (FP.i2d p2) (FP.l2d (own_big p1 p3))))])) _
      refine XS.dcmpS X27.here hx rfl (v := (0 : Int32)) (hb hby at_100) rfl k2 ?_
      show Steps p.tables e below (T27.setTop (mkF m 101 #[.val (.int p1), .val (.int p2), .val (.int p3), .val (.int (p3 &&& (31 : Int32))), .val (.long (own_big p1 p3)), .second, .val (.long (own_ex p1 p2 p3)), .second, .val (.double (FP.l2d (own_big p1 p3))), .second, .val (.double (FP.i2d p2)), .second, .val (.ref b2), .val (.double (FP.l2d (own_ex p1 p2 p3))), .second, .val (.long (FP.d2l (FP.l2d (own_ex p1 p2 p3)))), .second, .val (.double (FP.l2d ((own_ex p1 p2 p3) - (FP.d2l (FP.l2d (own_ex p1 p2 p3)))))), .second] [(.int (0 : Int32))])) _
      refine XS.ifNo X27.here hx rfl (hb hby at_101) rfl ((if0 _ _).trans (teq (by decide : (0 : Int32) = (0 : Int32))).2) ?_
      show Steps p.tables e below (T27.setTop (mkF m 104 #[.val (.int p1), .val (.int p2), .val (.int p3), .val (.int (p3 &&& (31 : Int32))), .val (.long (own_big p1 p3)), .second, .val (.long (own_ex p1 p2 p3)), .second, .val (.double (FP.l2d (own_big p1 p3))), .second, .val (.double (FP.i2d p2)), .second, .val (.ref b2), .val (.double (FP.l2d (own_ex p1 p2 p3))), .second, .val (.long (FP.d2l (FP.l2d (own_ex p1 p2 p3)))), .second, .val (.double (FP.l2d ((own_ex p1 p2 p3) - (FP.d2l (FP.l2d (own_ex p1 p2 p3)))))), .second] [])) _
      refine XS.iconst X27.here hx rfl (hb hby at_104) ?_
      show Steps p.tables e below (T27.setTop (mkF m 105 #[.val (.int p1), .val (.int p2), .val (.int p3), .val (.int (p3 &&& (31 : Int32))), .val (.long (own_big p1 p3)), .second, .val (.long (own_ex p1 p2 p3)), .second, .val (.double (FP.l2d (own_big p1 p3))), .second, .val (.double (FP.i2d p2)), .second, .val (.ref b2), .val (.double (FP.l2d (own_ex p1 p2 p3))), .second, .val (.long (FP.d2l (FP.l2d (own_ex p1 p2 p3)))), .second, .val (.double (FP.l2d ((own_ex p1 p2 p3) - (FP.d2l (FP.l2d (own_ex p1 p2 p3)))))), .second] [(.int (1 : Int32))])) _
      refine XS.goto X27.here hx rfl (pc0 := 105) (pc' := 109) rfl (hb hby at_105) (by decide) (by decide) ?_
      exact kt
    obtain ⟨fs, hr, hrun, hended, hW, hsame⟩ := X27.leave (v := some (.int (1 : Int32))) (fun h => by rw [Bd.returns] at h; cases h)
    refine ⟨_, _, pre0 _ ?_, hrun, hended, _, _, rfl, ?_, ⟨_, rfl⟩, hW, hsame.mono (by decide) (by decide)⟩
    · show Steps p.tables e below (s₁.setTop (mkF m 0 #[.val (.int p1), .val (.int p2), .val (.int p3), .unset, .unset, .unset, .unset, .unset, .unset, .unset, .unset, .unset, .unset, .unset, .unset, .unset, .unset, .unset, .unset] [])) _
      refine sg1 _ ?_
      refine st2 _ ?_
      refine sg6 _ ?_
      refine st7.trans ?_
      refine sg8 _ ?_
      refine sg19 _ ?_
      refine st20.trans ?_
      refine sg24 _ ?_
      refine st25 _ ?_
      refine sg26 _ ?_
      refine st27 _ ?_
      refine sg28 _ ?_
      show Steps p.tables e below (T27.setTop (mkF m 109 #[.val (.int p1), .val (.int p2), .val (.int p3), .val (.int (p3 &&& (31 : Int32))), .val (.long (own_big p1 p3)), .second, .val (.long (own_ex p1 p2 p3)), .second, .val (.double (FP.l2d (own_big p1 p3))), .second, .val (.double (FP.i2d p2)), .second, .val (.ref b2), .val (.double (FP.l2d (own_ex p1 p2 p3))), .second, .val (.long (FP.d2l (FP.l2d (own_ex p1 p2 p3)))), .second, .val (.double (FP.l2d ((own_ex p1 p2 p3) - (FP.d2l (FP.l2d (own_ex p1 p2 p3)))))), .second] [(.int (1 : Int32))])) _
      exact retN X27 hx (t := .boolean) Bd.returns (by simp) (hb hby at_109) hr
    · show Q_rm0 Z p1 p2 p3 h0 n0 _ T27.heap _
      rw [e27]
      exact ⟨rfl, N20⟩
set_option maxRecDepth 65536 in
set_option maxHeartbeats 40000000 in
theorem comes_1 {Post : Tables → Env → Array Value → State → Outcome → State → Prop} (hpost : ∀ tb e args s v u, (limb_1_1.after args s (.returned v) u = true ∧ limb_1_2.after args s (.returned v) u = true ∧ True) → FrameEnd s (.returned v) u (Jvm.fieldLocs frame_1_writes args s ++ Jvm.arrayLocs frame_1_arrays args s ++ Jvm.staticLocs frame_1_statics s) 16 128 → Post tb e args s (.returned v) u) :
    ArmFor flags0 classFile x code maxLocals ret World_1 tables_1 room_1 Calls_1 rest_1 Pre_1 Post := by
  intro l hfl _ _ p e ha hc hk s m args below hf hA hF happ hP
  obtain ⟨hcalls, hrest, hpre⟩ := hP
  obtain ⟨-, -, -, hnamed, -, -, -, hat⟩ := (Spec.applies_iff hf).mp happ
  obtain ⟨hg, hn⟩ := and_e (Cond.before_iff.mp (show (Jvm.Cond.and given_1 narrow_1).before args s = true from hpre))
  obtain ⟨g1, g2⟩ := and_e hg
  obtain ⟨g3, g4⟩ := and_e g2
  obtain ⟨g5, g6⟩ := and_e g4
  obtain ⟨w0, w1, w2, rfl⟩ : ∃ w0 w1 w2 : Value, args = #[w0, w1, w2] := by
    have hs : args.size = 3 := by simpa [Cond.value, given_1] using g1
    obtain ⟨L⟩ := args
    match L, hs with
    | [w0, w1, w2], _ => exact ⟨w0, w1, w2, rfl⟩
  have hw := fun d (hd : d ∈ tables_1) => atoms_spec (ws := Jvm.Cond.code x code maxLocals ret :: tables_1) hat d (List.mem_cons_of_mem _ hd)
  have hfit : Fit s := fun {y c} hc i hi => by
    obtain ⟨ha, rfl⟩ := Array.getElem?_eq_some_iff.mp hc
    have q := List.all_eq_true.mp ((Array.all_eq_true_iff_forall_mem.mp hF) _ (Array.getElem_mem ha)) i (List.mem_range.mpr hi)
    simpa [Array.getElem?_eq_getElem hi] using q
  obtain ⟨i0, ei0⟩ := is_v g3
  obtain rfl : w0 = (.int i0) := Option.some.inj ei0
  obtain ⟨i1, ei1⟩ := is_v g5
  obtain rfl : w1 = (.int i1) := Option.some.inj ei1
  obtain ⟨i2, ei2⟩ := is_v g6
  obtain rfl : w2 = (.int i2) := Option.some.inj ei2
  obtain ⟨n, o, h1, h2, h3, _, L, rfl, ⟨rfl, N⟩, hq⟩ := rm0 l s _ hw tables_1 i0 i1 i2 s.heap s.heap.size (Nat.le_refl _)  p e ha hc hk s m _ below hf ((Spec.applies_iff_loose hf).mp happ).1 ⟨rfl, State.Warmed39.refl s, rfl⟩ trivial
  refine ⟨n, _, h1, h2, h3, hpost _ _ _ _ _ _ ⟨Cond.after_iff.mpr rfl, Cond.after_iff.mpr (eq_i res_at (Term.int_eval (1)) rfl), trivial⟩ ⟨hq.1, hq.2.1, (hq.2.2.sift fun y hy => Or.inr (N y hy)).mono (by decide) (by decide)⟩⟩
theorem main_1_1 : Claimed_1_1 := comes_1 fun _ _ _ _ _ _ h hF => ⟨h.1, hF⟩
theorem main_1_2 : Claimed_1_2 := comes_1 fun _ _ _ _ _ _ h hF => ⟨h.2.1, hF⟩
end Jvm.Pilot.@@N@@
namespace Jvm.Pilot.@@N@@
open Jvm Jvm.ClassFile Sem Op Lib Jvm.Free Jvm.Stand Jvm.Pilot.@@N@@.Jvm.D
/-! MADE BY PROGRAM (witnessworld.py) out of the Statement's table words and the real class files: 9 classes; the members and pool entries that the words name. The judged class is class 1, her method 1. -/
namespace start1
open Jvm.ClassFile
def u (s : String) : CpInfo := .utf8 (stringToUtf16 s)
/-- a pool by its gaps: so many unusable entries, then the entry; so many at the end -/
def gap : Nat → List CpInfo → List CpInfo
  | 0, r => r
  | n + 1, r => .unusable :: gap n r
def poolList (es : List (Nat × CpInfo)) (last : Nat) : List CpInfo := es.foldr (fun e r => gap e.1 (e.2 :: r)) (gap last [])
def pool (es : List (Nat × CpInfo)) (last : Nat) : Array CpInfo := ⟨poolList es last⟩
def fileOf (pool : Array CpInfo) (this : Nat) (attrs : Array Attribute := #[]) (ms : Array MethodInfo := #[]) (fl : Nat := 33) (sup : Nat := 0) (ifs : Array Nat := #[]) (fds : Array FieldInfo := #[]) : ClassFile where
  minorVersion := 0
  majorVersion := 65
  constantPool := pool
  accessFlags := fl
  thisClass := this
  superClass := sup
  interfaces := ifs
  fields := fds
  methods := ms
  attributes := attrs
def plain (name : String) (sup : Option ClassId) : Class where
  name := name
  kind := .ordinary
  loader := none
  accessFlags := 33
  super := sup
  interfaces := #[]
  cf := none
  fields := #[]
  methods := #[]
  instanceTypes := #[]
  staticTypes := #[]
  resolved := #[]
  callSites := []
  init := .initialized
  statics := none
  mirror := none

def pool0 : Array CpInfo := pool [(5, u "<init>"), (0, u "()V"), (1, .class_ 10), (1, u "java/lang/Object")] 113

def k0c0 : Code := { maxStack := 0, maxLocals := 1, code := object_method_1_code, exceptionTable := #[], attributes := #[] }
def k0m0 : Method := { name := "<init>", desc := "()V", sig := { parameters := [], returnType := none }, accessFlags := 1, code := some k0c0 }
/-- java/lang/Object -/
def k0 : Class := { plain "java/lang/Object" none with
  accessFlags := 33
  interfaces := #[]
  cf := some (fileOf pool0 8 #[] #[{ accessFlags := 1, nameIndex := 5, descriptorIndex := 6, attributes := #[] }] 33 0 #[] #[])
  fields := #[]
  methods := #[k0m0]
  instanceTypes := #[]
  staticTypes := #[]
  resolved := Array.replicate 124 none
  statics := none }

def pool1 : Array CpInfo := pool [(2, .class_ 4), (0, .nameAndType 5 6), (0, u "java/lang/Object"), (0, u "<init>"), (0, u "()V"), (0, .class_ 8), (0, u "com/example/mulberry/mulberry/DoubleWord"), (0, .methodref 7 3), (0, .methodref 7 11), (0, .nameAndType 12 13), (0, u "setSum"), (0, u "(DD)V"), (0, .fieldref 7 15), (0, .nameAndType 16 17), (0, u "hi"), (0, u "D"), (0, .fieldref 7 19), (0, .nameAndType 20 17), (0, u "lo"), (0, .class_ 22), (0, u "com/example/mulberry/mulberry/DoubleWordSetSumPinLaw"), (2, u "law"), (0, u "(III)Z")] 3

def k1m0 : Method := { name := "<init>", desc := "()V", sig := { parameters := [], returnType := none }, accessFlags := 1, code := none }
def k1c1 : Code := { maxStack := 5, maxLocals := 19, code := code, exceptionTable := #[], attributes := #[] }
def k1m1 : Method := { name := "law", desc := "(III)Z", sig := { parameters := [.int, .int, .int], returnType := some .boolean }, accessFlags := 9, code := some k1c1 }
/-- com/example/mulberry/mulberry/DoubleWordSetSumPinLaw -/
def k1 : Class := { plain "com/example/mulberry/mulberry/DoubleWordSetSumPinLaw" (some 0) with
  accessFlags := 49
  interfaces := #[]
  cf := some (fileOf pool1 21 #[] #[{ accessFlags := 1, nameIndex := 5, descriptorIndex := 6, attributes := #[] }, { accessFlags := 9, nameIndex := 25, descriptorIndex := 26, attributes := #[] }] 49 2 #[] #[])
  fields := #[]
  methods := #[k1m0, k1m1]
  instanceTypes := #[]
  staticTypes := #[]
  resolved := Array.replicate 30 none
  statics := none }

def pool2 : Array CpInfo := pool [(1, .methodref 2 3), (0, .class_ 4), (0, .nameAndType 5 6), (0, u "java/lang/Object"), (0, u "<init>"), (0, u "()V"), (0, .fieldref 8 9), (0, .class_ 10), (0, .nameAndType 11 12), (0, u "com/example/mulberry/mulberry/DoubleWord"), (0, u "hi"), (0, u "D"), (0, .fieldref 8 14), (0, .nameAndType 15 12), (0, u "lo"), (3, u "(DD)V"), (13, u "setSum")] 4

def k2c0 : Code := { maxStack := 1, maxLocals := 1, code := prog_7_method_1_code, exceptionTable := #[], attributes := #[] }
def k2m0 : Method := { name := "<init>", desc := "()V", sig := { parameters := [], returnType := none }, accessFlags := 0, code := some k2c0 }
def k2c1 : Code := { maxStack := 7, maxLocals := 9, code := prog_7_method_3_code, exceptionTable := #[], attributes := #[] }
def k2m1 : Method := { name := "setSum", desc := "(DD)V", sig := { parameters := [.double, .double], returnType := none }, accessFlags := 0, code := some k2c1 }
/-- com/example/mulberry/mulberry/DoubleWord -/
def k2 : Class := { plain "com/example/mulberry/mulberry/DoubleWord" (some 0) with
  accessFlags := 48
  interfaces := #[]
  cf := some (fileOf pool2 8 #[] #[{ accessFlags := 0, nameIndex := 5, descriptorIndex := 6, attributes := #[] }, { accessFlags := 0, nameIndex := 33, descriptorIndex := 19, attributes := #[] }] 48 2 #[] #[{ accessFlags := 0, nameIndex := 11, descriptorIndex := 12, attributes := #[] }, { accessFlags := 0, nameIndex := 15, descriptorIndex := 12, attributes := #[] }])
  fields := #[{ name := "hi", type := .double, accessFlags := 0, slot := 0, constantValue := 0 }, { name := "lo", type := .double, accessFlags := 0, slot := 1, constantValue := 0 }]
  methods := #[k2m0, k2m1]
  instanceTypes := #[.double, .double]
  staticTypes := #[]
  resolved := Array.replicate 38 none
  statics := none }

def pool3 : Array CpInfo := pool [(1, u "java/lang/Cloneable"), (0, .class_ 1), (0, u "java/lang/Object"), (0, .class_ 3)] 3

/-- java/lang/Cloneable -/
def k3 : Class := { plain "java/lang/Cloneable" (some 0) with
  accessFlags := 1537
  interfaces := #[]
  cf := some (fileOf pool3 2 #[] #[] 1537 4 #[] #[])
  fields := #[]
  methods := #[]
  instanceTypes := #[]
  staticTypes := #[]
  resolved := Array.replicate 8 none
  statics := none }

def pool4 : Array CpInfo := pool [(1, u "java/io/Serializable"), (0, .class_ 1), (0, u "java/lang/Object"), (0, .class_ 3)] 3

/-- java/io/Serializable -/
def k4 : Class := { plain "java/io/Serializable" (some 0) with
  accessFlags := 1537
  interfaces := #[]
  cf := some (fileOf pool4 2 #[] #[] 1537 4 #[] #[])
  fields := #[]
  methods := #[]
  instanceTypes := #[]
  staticTypes := #[]
  resolved := Array.replicate 8 none
  statics := none }

/-- the primitive byte -/
def k5 : Class := { plain "byte" none with kind := .primitive 'B', accessFlags := 0x411 }
/-- [B -/
def k6 : Class := { plain "[B" (some 0) with kind := .array 5 .byte, interfaces := #[3, 4], accessFlags := 1041 }

/-- the primitive int -/
def k7 : Class := { plain "int" none with kind := .primitive 'I', accessFlags := 0x411 }
/-- [I -/
def k8 : Class := { plain "[I" (some 0) with kind := .array 7 .int, interfaces := #[3, 4], accessFlags := 1041 }

def heap : Heap := #[]
def classes : Array Class := #[k0, k1, k2, k3, k4, k5, k6, k7, k8]
def interned : List (Array UInt16 × Addr) := []
def slotsUsed : Nat := 0
def theMethod : MethodId := ⟨1, 1⟩
def args0 : Array Value := #[.int 5, .int 5, .int 5]
def aboutOver (below : List Frame) : State where
  vm := { classes := classes, interned := interned.toArray }
  heap := heap
  slotsUsed := slotsUsed
  threads := #[{ frames := .invoking theMethod args0 :: below }]
def below0 : List Frame := [.native { method := ⟨0, 0⟩, args := #[] }]
def about1 : State := aboutOver below0
def p0 : Program := .bare "" "" ""
def e0 : Env := launch0.env 0 0 0
theorem w_frames : about1.frames = Frame.invoking theMethod args0 :: below0 := rfl
set_option maxRecDepth 65536 in
theorem w_args : argsFit about1.vm theMethod args0 = true := by decide +kernel
set_option maxRecDepth 65536 in
theorem w_heap : heapFits about1 = true := by decide +kernel
set_option maxRecDepth 65536 in
theorem w_runnable : about1.curStatus? = some .runnable := by decide +kernel
set_option maxRecDepth 65536 in
theorem w_alone : about1.alone = true := by decide +kernel
set_option maxRecDepth 65536 in
theorem w_named : about1.methodNamed? x = some theMethod := by decide +kernel
set_option maxRecDepth 65536 in
theorem w_hears : about1.hears theMethod below0 = true := by decide +kernel
set_option maxRecDepth 65536 in
theorem w_ripe : about1.ripe theMethod args0 below0 = true := by decide +kernel
theorem w_running : about1.status = .running := rfl
set_option maxRecDepth 65536 in
theorem w_room : about1.hasRoom e0.platform room_1 = true :=
  launch0.hasRoom_least _ room_1 (by decide +kernel) (by decide +kernel) (by decide +kernel) (by decide +kernel) (by decide +kernel) (by decide +kernel)
theorem allAtoms_all (ts : List Jvm.Cond) (a : Array Jvm.Value) (st : Jvm.State) : (allAtoms ts).before a st = ts.all (fun c => c.before a st) := by
  induction ts with
  | nil => rfl
  | cons c t ih =>
    show (Jvm.Cond.and c (allAtoms t)).before a st = _
    rw [Jvm.Cond.before_and, ih, List.all_cons]
def words1 : List Jvm.Cond := Jvm.Cond.code x code maxLocals ret :: tables_1
/-- a 'code' word, met by the world's own term for the bytes: nothing is compared byte by byte -/
theorem code_word {y : MethodName} {bytes : ByteArray} {mx : Nat} {rt : Option FieldType} {a : Array Value} {s : State} {m : MethodId} {meth : Method} {c : Code} (h1 : s.methodNamed? y = some m) (h2 : s.vm.method? m = some meth) (h3 : meth.code = some c) (h4 : c.code = bytes)
    (h5 : (c.maxLocals == mx && c.exceptionTable.isEmpty && decide (c.maxStack ≤ mostOperands) && decide (meth.sig.returnType = rt) && !meth.locks && decide (parseMethodDescriptor y.desc = some meth.sig)) = true) : (Jvm.Cond.code y bytes mx rt).before a s = true := by
  simp only [Bool.and_eq_true, beq_iff_eq, Bool.not_eq_true', decide_eq_true_eq] at h5
  obtain ⟨⟨⟨⟨⟨g1, g2⟩, g3⟩, g4⟩, g5⟩, g6⟩ := h5
  simp [Cond.before, Cond.holds, Cond.value, h1, h2, h3, h4, g1, g2, g3, g4, g5, g6]
def isCode : Jvm.Cond → Bool
  | .code _ _ _ _ => true
  | _ => false
theorem all_split {L : List Jvm.Cond} {P : Jvm.Cond → Bool} (h1 : L.all (fun c => isCode c || P c) = true) (h2 : ∀ c ∈ L.filter isCode, P c = true) : L.all P = true := by
  refine List.all_eq_true.mpr fun c hc => ?_
  have h := List.all_eq_true.mp h1 c hc
  rcases Bool.eq_false_or_eq_true (isCode c) with hi | hi
  · exact h2 c (List.mem_filter.mpr ⟨hc, hi⟩)
  · simpa [hi] using h
set_option maxRecDepth 65536 in
theorem w_c0 : (Jvm.Cond.code x code maxLocals ret).before args0 about1 = true := code_word (m := ⟨1, 1⟩) (meth := k1m1) (c := k1c1) (by decide +kernel) rfl rfl rfl (by decide +kernel)
set_option maxRecDepth 65536 in
theorem w_c1 : (Jvm.Cond.code ({ cls := "com/example/mulberry/mulberry/DoubleWord", name := "<init>", desc := "()V" } : Jvm.MethodName) prog_7_method_1_code (1 : Nat) (Option.none : Option Jvm.ClassFile.FieldType)).before args0 about1 = true := code_word (m := ⟨2, 0⟩) (meth := k2m0) (c := k2c0) (by decide +kernel) rfl rfl rfl (by decide +kernel)
set_option maxRecDepth 65536 in
theorem w_c2 : (Jvm.Cond.code ({ cls := "java/lang/Object", name := "<init>", desc := "()V" } : Jvm.MethodName) object_method_1_code (1 : Nat) (Option.none : Option Jvm.ClassFile.FieldType)).before args0 about1 = true := code_word (m := ⟨0, 0⟩) (meth := k0m0) (c := k0c0) (by decide +kernel) rfl rfl rfl (by decide +kernel)
set_option maxRecDepth 65536 in
theorem w_c3 : (Jvm.Cond.code ({ cls := "com/example/mulberry/mulberry/DoubleWord", name := "setSum", desc := "(DD)V" } : Jvm.MethodName) prog_7_method_3_code (9 : Nat) (Option.none : Option Jvm.ClassFile.FieldType)).before args0 about1 = true := code_word (m := ⟨2, 1⟩) (meth := k2m1) (c := k2c1) (by decide +kernel) rfl rfl rfl (by decide +kernel)
def codes1 : List Jvm.Cond := [Jvm.Cond.code x code maxLocals ret, Jvm.Cond.code ({ cls := "com/example/mulberry/mulberry/DoubleWord", name := "<init>", desc := "()V" } : Jvm.MethodName) prog_7_method_1_code (1 : Nat) (Option.none : Option Jvm.ClassFile.FieldType), Jvm.Cond.code ({ cls := "java/lang/Object", name := "<init>", desc := "()V" } : Jvm.MethodName) object_method_1_code (1 : Nat) (Option.none : Option Jvm.ClassFile.FieldType), Jvm.Cond.code ({ cls := "com/example/mulberry/mulberry/DoubleWord", name := "setSum", desc := "(DD)V" } : Jvm.MethodName) prog_7_method_3_code (9 : Nat) (Option.none : Option Jvm.ClassFile.FieldType)]
set_option maxRecDepth 65536 in
theorem codes_eq : words1.filter isCode = codes1 := rfl
theorem w_codes : ∀ c ∈ words1.filter isCode, c.before args0 about1 = true := by
  rw [codes_eq]
  intro c hc
  simp only [codes1, List.mem_cons, List.not_mem_nil, or_false] at hc
  rcases hc with rfl | rfl | rfl | rfl
  · exact w_c0
  · exact w_c1
  · exact w_c2
  · exact w_c3
set_option maxRecDepth 65536 in
theorem w_t1 : words1.all (fun c => isCode c || c.before args0 about1) = true := by decide +kernel
theorem w_tables : (allAtoms (Jvm.Cond.code x code maxLocals ret :: tables_1)).before args0 about1 = true := by
  rw [allAtoms_all]
  show words1.all (fun c => c.before args0 about1) = true
  refine all_split ?_ w_codes
  rw [w_t1]
set_option maxRecDepth 65536 in
theorem w_case : (Jvm.Cond.and given_1 narrow_1).before args0 about1 = true := by decide +kernel
theorem w_applies : (headSpec (Jvm.Cond.code x code maxLocals ret :: tables_1) room_1).applies x e0.platform about1 = true :=
  (Spec.applies_iff w_frames).mpr ⟨w_running, w_runnable, w_alone, w_named, w_hears, w_ripe, w_room, w_tables⟩
theorem atStart : AtStart classFile x code maxLocals ret World_1 tables_1 room_1 Calls_1 rest_1 Pre_1 launch0 p0 e0 about1 theMethod args0 below0 :=
  ⟨lists_1, trivial, launch0.admits_env _ _ _, launch0.least_env, fairChoices_fair.cas, fairChoices_fair.clock, w_frames, w_args, w_heap, w_applies, trivial, trivial, w_case⟩
end start1
theorem witness_1 : WitnessClaimed_1 := ⟨start1.p0, start1.e0, start1.about1, start1.theMethod, start1.args0, start1.below0, start1.atStart⟩
end Jvm.Pilot.@@N@@
