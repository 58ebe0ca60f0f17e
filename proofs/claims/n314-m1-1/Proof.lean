import JvmDerived
import JvmDerived.Pilot.@@N@@Statement
import JvmDerived.Pilot.@@N@@Code
set_option linter.unusedVariables false
set_option linter.unusedSimpArgs false
namespace Jvm.RoadKit
open Sem ClassFile Op Lib Jvm.Stand Jvm.Free Jvm.LawKit
section New
variable {p : Program} {l : Launch} {e : Env} {R : Room} {s : State} {m : MethodId} {args : Array Value} {below : List Frame} {meth : Method} {c : Code} {T : State} {locs : List Loc} {cells slots : Nat}
theorem retI (X : Stand p l e R s m args below meth c T locs cells slots) (hx : p.tables.exec = Jvm.exec) {pc : Nat} {Ls : Array Slot} {z : Int32} {rest : List Value} (hret : meth.sig.returnType = some .int) (hd : decode c.code pc = .ok (.ireturn, 1)) {fs : List Frame}
    (hl : ∀ (f : JFrame) (acts : List Action), f.method = m → f.locked = none → f.entered = [] → (doReturn e (T.setTop f) acts (some (.int z))).1 = T.setFrames fs) : Steps p.tables e below (T.setTop (mkF m pc Ls (.int z :: rest))) (T.setFrames fs) := by
  have hm' : T.vm.method? m = some meth := X.method'
  have hn : narrow .int (.int z) = .int z := rfl
  show Steps p.tables e below (T.setTop { method := m, pc := pc, locals := Ls, stack := _ :: rest, locked := none }) _
  jvm_step X.here [X.here.top, hx, hd, hm', hret, hn]
  first | (intro acts; rw [hl _ acts rfl rfl rfl]) | rw [hl _ _ rfl rfl rfl]
  exact Steps.refl _
end New
end Jvm.RoadKit
/- laws to paste: Road.backV (cut by pick.py; bodies as the Statement names them) -/
namespace Jvm.Pilot.@@N@@
namespace StrChars
open Jvm Sem ClassFile Op Lib Jvm.Stand Jvm.Free.XT Jvm.Free.ALB Jvm.Free.JM Jvm.Free
open Jvm.Lib.Cold (StaticIs)
/-- a char array whose places are chars -/
def Ch (a : Addr) (A : Cell) (U : State) : Prop := Arr .char a A U ∧ Typed .char A
theorem Ch.mv {a : Addr} {A : Cell} {U U' : State} (h : Ch a A U) (hal : U.vm.Alike U'.vm) (hh : U'.heap = U.heap) : Ch a A U' := ⟨h.1.mv hal hh, h.2⟩
theorem Ch.keep {a : Addr} {A : Cell} {U U' : State} (h : Ch a A U) (hal : U.vm.Alike U'.vm) (hk : U'.heap[a]? = some A) : Ch a A U' := ⟨h.1.keep hal hk, h.2⟩
/-- what place i of a char[]'s cell holds -/
def cv (A : Cell) (i : Nat) : Int32 := match A.slots[i]? with | some (.int x) => x | _ => 0
theorem Ch.get {a : Addr} {A : Cell} {U : State} (h : Ch a A U) {i : Nat} (hi : i < A.slots.size) : A.slots[i]? = some (.int (cv A i)) := by
  have e := Array.getElem?_eq_getElem hi
  have f := h.2 i _ e
  unfold cv; rw [e]
  generalize A.slots[i] = v at f
  cases v <;> simp [fits] at f ⊢
/-- the byte that i2b leaves of a char -/
def lo8 (x : Int32) : Int32 := x.toInt8.toInt32
theorem fits_lo8 (y : Int32) : fits .byte (.int (lo8 y)) = true := by
  have h1 := y.toInt8.le_toInt
  have h2 := y.toInt8.toInt_lt
  simp only [lo8, fits, Bool.and_eq_true, decide_eq_true_eq, Int32.le_iff_toInt_le, Int8.toInt_toInt32, show (-128 : Int32).toInt = -128 from by decide, show (127 : Int32).toInt = 127 from by decide]
  omega
/-- A' is A but that each place j of lo .. hi - 1 holds f j -/
def Laid (A A' : Cell) (lo hi : Nat) (f : Nat → Value) : Prop := A'.cls = A.cls ∧ A'.vm = A.vm ∧ A'.slots.size = A.slots.size ∧ ∀ i, A'.slots[i]? = if lo ≤ i ∧ i < hi then some (f i) else A.slots[i]?
theorem Laid.zero (A : Cell) (lo : Nat) (f : Nat → Value) : Laid A A lo (lo + 0) f := ⟨rfl, rfl, rfl, fun i => by rw [if_neg (by omega)]⟩
theorem Laid.step {A Ak : Cell} {lo k : Nat} {f : Nat → Value} {v : Value} (h : Laid A Ak lo k f) (hlo : lo ≤ k) (hk : k < Ak.slots.size) (hv : v = f k) : Laid A (Ak.setSlot k v) lo (k + 1) f := by
  refine ⟨h.1, h.2.1, by simpa [Cell.setSlot] using h.2.2.1, fun i => ?_⟩
  by_cases e : k = i
  · subst e; rw [Cell.slots_setSlot_self v hk, if_pos (by omega), hv]
  · rw [Cell.slots_setSlot_ne v e, h.2.2.2 i]
    by_cases q : lo ≤ i ∧ i < k
    · rw [if_pos q, if_pos (by omega)]
    · rw [if_neg q, if_neg (by omega)]
def U16 : String := "java/lang/StringUTF16"
namespace Cmp5
def yN : MethodName := ⟨"java/lang/StringUTF16", "compress", "([CI[BII)I"⟩
abbrev yB : ByteArray := jdk_52_method_21_code
theorem d0 : decode yB 0 = .ok (.iconst 0, 1) := by decide +kernel
theorem d1 : decode yB 1 = .ok (.istore 5, 2) := by decide +kernel
theorem d3 : decode yB 3 = .ok (.iload 5, 2) := by decide +kernel
theorem d5 : decode yB 5 = .ok (.iload 4, 2) := by decide +kernel
theorem d7 : decode yB 7 = .ok (.if_icmp (.ge) 37, 3) := by decide +kernel
theorem d10 : decode yB 10 = .ok (.aload_n 0, 1) := by decide +kernel
theorem d11 : decode yB 11 = .ok (.iload_n 1, 1) := by decide +kernel
theorem d12 : decode yB 12 = .ok (.caload, 1) := by decide +kernel
theorem d13 : decode yB 13 = .ok (.istore 6, 2) := by decide +kernel
theorem d15 : decode yB 15 = .ok (.iload 6, 2) := by decide +kernel
theorem d17 : decode yB 17 = .ok (.sipush 255, 3) := by decide +kernel
theorem d20 : decode yB 20 = .ok (.if_icmp (.le) 6, 3) := by decide +kernel
theorem d26 : decode yB 26 = .ok (.aload_n 2, 1) := by decide +kernel
theorem d27 : decode yB 27 = .ok (.iload_n 3, 1) := by decide +kernel
theorem d28 : decode yB 28 = .ok (.iload 6, 2) := by decide +kernel
theorem d30 : decode yB 30 = .ok (.i2b, 1) := by decide +kernel
theorem d31 : decode yB 31 = .ok (.bastore, 1) := by decide +kernel
theorem d32 : decode yB 32 = .ok (.iinc 1 1, 3) := by decide +kernel
theorem d35 : decode yB 35 = .ok (.iinc 3 1, 3) := by decide +kernel
theorem d38 : decode yB 38 = .ok (.iinc 5 1, 3) := by decide +kernel
theorem d41 : decode yB 41 = .ok (.goto (-38), 3) := by decide +kernel
theorem d44 : decode yB 44 = .ok (.iload 4, 2) := by decide +kernel
theorem d46 : decode yB 46 = .ok (.ireturn, 1) := by decide +kernel
def site : List Cond := []
def tab : Cond := tabOf yN yB 7 (some .int) site
def P (b : Addr) (A : Cell) (d : Addr) (B : Cell) (o q len : Nat) (args : Array Value) (s : State) : Prop := args = #[.ref b, .int (Int32.ofNat o), .ref d, .int (Int32.ofNat q), .int (Int32.ofNat len)] ∧ Ch b A s ∧ Arr .byte d B s ∧ b ≠ d ∧ o + len ≤ A.slots.size ∧ q + len ≤ B.slots.size ∧ ∀ i, i < len → ¬ 255 < cv A (o + i)
def E (b : Addr) (A : Cell) (d : Addr) (B : Cell) (o q len : Nat) (r : Option Value) (s u : State) : Prop := r = some (.int (Int32.ofNat len)) ∧ ∃ B', Put d B' s u ∧ Laid B B' q (q + len) (fun j => Value.int (lo8 (cv A (o + (j - q)))))
/-- no char of the range above 255: len; the places written hold each char's low byte -/
theorem law (l : Launch) (b : Addr) (A : Cell) (d : Addr) (B : Cell) (o q len : Nat) : Law l yN 5 5 0 0 yB 7 (some .int) site (P b A d B o q len) (E b A d B o q len) (copyLocs d q len) 0 0 := by
  refine Law.of_walk (plainFor_of_name (by decide +kernel)) (by decide +kernel) (by decide +kernel) (by decide) (fun _ _ h => by rw [h.1]; rfl) (fun _ U U' hal hh h => ⟨h.1, h.2.1.mv hal hh, h.2.2.1.mv hal hh, h.2.2.2⟩) (fun r U U' V V' h1 hal h2 h => ⟨h.1, h.2.elim fun B' q => ⟨B', q.1.mv h1 h2, q.2⟩⟩) ?_
  intro p e s m args below meth c s₁ X0 hexec hbytes hml hret hlk hnm hown hh0 W hP
  obtain ⟨rfl, hA, hB, hne, l1, l2, hp⟩ := hP
  have c1 : Steps p.tables e below (s₁.setTop (entryFrame m #[.ref b, .int (Int32.ofNat o), .ref d, .int (Int32.ofNat q), .int (Int32.ofNat len)] 7)) (s₁.setTop (mkF m 0 #[.val (.ref b), .val (.int (Int32.ofNat o)), .val (.ref d), .val (.int (Int32.ofNat q)), .val (.int (Int32.ofNat len)), .unset, .unset] [])) := entry rfl
  have hA0 := hA.1.mv X0.warmed.alike hh0
  have hB0 := hB.mv X0.warmed.alike hh0
  have a31 := hA.1.2.2.2
  have c2 : Steps p.tables e below (s₁.setTop (entryFrame m #[.ref b, .int (Int32.ofNat o), .ref d, .int (Int32.ofNat q), .int (Int32.ofNat len)] 7)) (s₁.setTop (mkF m 3 #[.val (.ref b), .val (.int (Int32.ofNat o)), .val (.ref d), .val (.int (Int32.ofNat q)), .val (.int (Int32.ofNat len)), .val (.int 0), .unset] [])) := c1.trans (by
    refine iconstV X0.here hexec rfl 0 (hb hbytes d0) (by decide) ?_
    refine XS.istore X0.here hexec rfl (hb hbytes d1) rfl rfl ?_
    exact Steps.refl _)
  have loop : ∀ (r i : Nat), i + r = len → ∀ (z : Slot), (z = .unset ∨ ∃ w, z = .val w ∧ w.category = 1) → ∀ (Tl : State) (Bk : Cell), Stand p l e { frames := 0, locals := 0, cells := 0, slots := 0 } s m #[.ref b, .int (Int32.ofNat o), .ref d, .int (Int32.ofNat q), .int (Int32.ofNat len)] below meth c Tl ([] ++ copyLocs d q i) 0 0 → Put d Bk s₁ Tl → Laid B Bk q (q + i) (fun j => Value.int (lo8 (cv A (o + (j - q))))) →
      Steps p.tables e below (s₁.setTop (entryFrame m #[.ref b, .int (Int32.ofNat o), .ref d, .int (Int32.ofNat q), .int (Int32.ofNat len)] 7)) (Tl.setTop (mkF m 3 #[.val (.ref b), .val (.int (Int32.ofNat (o + i))), .val (.ref d), .val (.int (Int32.ofNat (q + i))), .val (.int (Int32.ofNat len)), .val (.int (Int32.ofNat i)), z] [])) → ∃ (T' : State) (B' : Cell) (z' : Slot), Stand p l e { frames := 0, locals := 0, cells := 0, slots := 0 } s m #[.ref b, .int (Int32.ofNat o), .ref d, .int (Int32.ofNat q), .int (Int32.ofNat len)] below meth c T' ([] ++ copyLocs d q len) 0 0 ∧ Put d B' s₁ T' ∧ Laid B B' q (q + len) (fun j => Value.int (lo8 (cv A (o + (j - q))))) ∧
      Steps p.tables e below (s₁.setTop (entryFrame m #[.ref b, .int (Int32.ofNat o), .ref d, .int (Int32.ofNat q), .int (Int32.ofNat len)] 7)) (T'.setTop (mkF m 3 #[.val (.ref b), .val (.int (Int32.ofNat (o + len))), .val (.ref d), .val (.int (Int32.ofNat (q + len))), .val (.int (Int32.ofNat len)), .val (.int (Int32.ofNat len)), z'] [])) := by
    intro r
    induction r with
    | zero =>
      intro i hi z hz Tl Bk Xl pl fl cl
      have hil : i = len := by omega
      rw [hil] at Xl fl cl
      exact ⟨Tl, Bk, z, Xl, pl, fl, cl⟩
    | succ r ih =>
      intro i hi z hz Tl Bk Xl pl fl cl
      have all := X0.warmed.alike.symm.trans Xl.warmed.alike
      have hAl := hA0.keep all (pl.other hne hA0.1)
      have hBk := hB0.like all pl.1 fl.1 fl.2.1 fl.2.2.1
      have hlt : q + i < Bk.slots.size := by rw [fl.2.2.1]; omega
      have c3 : Steps p.tables e below (s₁.setTop (entryFrame m #[.ref b, .int (Int32.ofNat o), .ref d, .int (Int32.ofNat q), .int (Int32.ofNat len)] 7)) (Tl.setTop (mkF m 12 #[.val (.ref b), .val (.int (Int32.ofNat (o + i))), .val (.ref d), .val (.int (Int32.ofNat (q + i))), .val (.int (Int32.ofNat len)), .val (.int (Int32.ofNat i)), z] [.int (Int32.ofNat (o + i)), .ref b])) := cl.trans (by
        refine XS.iload Xl.here hexec rfl (hb hbytes d3) rfl ?_
        refine XS.iload Xl.here hexec rfl (hb hbytes d5) rfl ?_
        refine XS.icmpNo Xl.here hexec rfl (hb hbytes d7) rfl (ii_ge_f (lt32 (by omega) (by omega))) ?_
        refine XS.aloadN Xl.here hexec rfl (hb hbytes d10) rfl rfl ?_
        refine XS.iloadN Xl.here hexec rfl (hb hbytes d11) rfl ?_
        exact Steps.refl _)
      have c4 : Steps p.tables e below (s₁.setTop (entryFrame m #[.ref b, .int (Int32.ofNat o), .ref d, .int (Int32.ofNat q), .int (Int32.ofNat len)] 7)) (Tl.setTop (mkF m 13 #[.val (.ref b), .val (.int (Int32.ofNat (o + i))), .val (.ref d), .val (.int (Int32.ofNat (q + i))), .val (.int (Int32.ofNat len)), .val (.int (Int32.ofNat i)), z] [.int (cv A (o + i))])) := c3.trans (by
        refine Xl.aget hexec hAl rfl (hA.get (i := o + i) (by omega)) rfl rfl (hb hbytes d12) ?_
        exact Steps.refl _)
      have c5 : Steps p.tables e below (s₁.setTop (entryFrame m #[.ref b, .int (Int32.ofNat o), .ref d, .int (Int32.ofNat q), .int (Int32.ofNat len)] 7)) (Tl.setTop (mkF m 15 #[.val (.ref b), .val (.int (Int32.ofNat (o + i))), .val (.ref d), .val (.int (Int32.ofNat (q + i))), .val (.int (Int32.ofNat len)), .val (.int (Int32.ofNat i)), .val (.int (cv A (o + i)))] [])) := c4.trans (by
        refine XS.istoreS Xl.here hexec rfl (hb hbytes d13) rfl rfl hz ?_
        exact Steps.refl _)
      have c6 : Steps p.tables e below (s₁.setTop (entryFrame m #[.ref b, .int (Int32.ofNat o), .ref d, .int (Int32.ofNat q), .int (Int32.ofNat len)] 7)) (Tl.setTop (mkF m 31 #[.val (.ref b), .val (.int (Int32.ofNat (o + i))), .val (.ref d), .val (.int (Int32.ofNat (q + i))), .val (.int (Int32.ofNat len)), .val (.int (Int32.ofNat i)), .val (.int (cv A (o + i)))] [.int (lo8 (cv A (o + i))), .int (Int32.ofNat (q + i)), .ref d])) := c5.trans (by
        refine XS.iload Xl.here hexec rfl (hb hbytes d15) rfl ?_
        refine sipushV Xl.here hexec rfl 255 (hb hbytes d17) (by decide) ?_
        refine XS.icmpYes Xl.here hexec rfl (pc0 := 20) rfl (hb hbytes d20) rfl (ii_le_t (hp i (by omega))) (by decide) rfl ?_
        refine XS.aloadN Xl.here hexec rfl (hb hbytes d26) rfl rfl ?_
        refine XS.iloadN Xl.here hexec rfl (hb hbytes d27) rfl ?_
        refine XS.iload Xl.here hexec rfl (hb hbytes d28) rfl ?_
        refine i2b Xl.here hexec rfl (hb hbytes d30) rfl ?_
        exact Steps.refl _)
      obtain ⟨T7, X7, p7, st7⟩ := Xl.aput hexec hBk rfl hlt rfl (fits_lo8 (cv A (o + i))) (g := (mkF m 31 #[.val (.ref b), .val (.int (Int32.ofNat (o + i))), .val (.ref d), .val (.int (Int32.ofNat (q + i))), .val (.int (Int32.ofNat len)), .val (.int (Int32.ofNat i)), .val (.int (cv A (o + i)))] [.int (lo8 (cv A (o + i))), .int (Int32.ofNat (q + i)), .ref d])) rfl (rest := []) rfl (hb hbytes d31)
      have c8 : Steps p.tables e below (s₁.setTop (entryFrame m #[.ref b, .int (Int32.ofNat o), .ref d, .int (Int32.ofNat q), .int (Int32.ofNat len)] 7)) (T7.setTop (mkF m 32 #[.val (.ref b), .val (.int (Int32.ofNat (o + i))), .val (.ref d), .val (.int (Int32.ofNat (q + i))), .val (.int (Int32.ofNat len)), .val (.int (Int32.ofNat i)), .val (.int (cv A (o + i)))] [])) := c6.trans (st7 _ (Steps.refl _))
      have c9 : Steps p.tables e below (s₁.setTop (entryFrame m #[.ref b, .int (Int32.ofNat o), .ref d, .int (Int32.ofNat q), .int (Int32.ofNat len)] 7)) (T7.setTop (mkF m 3 #[.val (.ref b), .val (.int (Int32.ofNat (o + i) + 1)), .val (.ref d), .val (.int (Int32.ofNat (q + i) + 1)), .val (.int (Int32.ofNat len)), .val (.int (Int32.ofNat i + 1)), .val (.int (cv A (o + i)))] [])) := c8.trans (by
        refine iincV X7.here hexec rfl 1 (hb hbytes d32) (by decide) rfl rfl ?_
        refine iincV X7.here hexec rfl 1 (hb hbytes d35) (by decide) rfl rfl ?_
        refine iincV X7.here hexec rfl 1 (hb hbytes d38) (by decide) rfl rfl ?_
        refine XS.goto X7.here hexec rfl (pc0 := 41) rfl (hb hbytes d41) (by decide) rfl ?_
        exact Steps.refl _)
      have c10 : Steps p.tables e below (s₁.setTop (entryFrame m #[.ref b, .int (Int32.ofNat o), .ref d, .int (Int32.ofNat q), .int (Int32.ofNat len)] 7)) (T7.setTop (mkF m 3 #[.val (.ref b), .val (.int (Int32.ofNat (o + (i + 1)))), .val (.ref d), .val (.int (Int32.ofNat (q + (i + 1)))), .val (.int (Int32.ofNat len)), .val (.int (Int32.ofNat (i + 1))), .val (.int (cv A (o + i)))] [])) := by
        have := c9
        rw [succ32, succ32, succ32] at this
        exact this
      exact ih (i + 1) (by omega) _ (Or.inr ⟨_, rfl, rfl⟩) T7 _ (by rw [copyLocs_step, ← List.append_assoc]; exact X7) (pl.trans p7) (fl.step (by omega) hlt (by simp)) c10
  obtain ⟨T9, B9, z9, X9, p9, f9, g9⟩ := loop len 0 (by omega) .unset (Or.inl rfl) s₁ B (by simpa [copyLocs] using X0) ⟨hB0.1, fun _ _ => rfl, rfl⟩ (Laid.zero _ _ _) c2
  have c11 : Steps p.tables e below (s₁.setTop (entryFrame m #[.ref b, .int (Int32.ofNat o), .ref d, .int (Int32.ofNat q), .int (Int32.ofNat len)] 7)) (T9.setTop (mkF m 46 #[.val (.ref b), .val (.int (Int32.ofNat (o + len))), .val (.ref d), .val (.int (Int32.ofNat (q + len))), .val (.int (Int32.ofNat len)), .val (.int (Int32.ofNat len)), z9] [.int (Int32.ofNat len)])) := g9.trans (by
    refine XS.iload X9.here hexec rfl (hb hbytes d3) rfl ?_
    refine XS.iload X9.here hexec rfl (hb hbytes d5) rfl ?_
    refine XS.icmpYes X9.here hexec rfl (pc0 := 7) rfl (hb hbytes d7) rfl (ii_ge_t (nlt32 (by omega) (Nat.le_refl _))) (by decide) rfl ?_
    refine XS.iload X9.here hexec rfl (hb hbytes d44) rfl ?_
    exact Steps.refl _)
  exact ⟨T9, some (.int (Int32.ofNat len)), _, _, _, X9, by simp, rfl, rfl, (fun h => by cases h), ⟨rfl, B9, p9.from hh0, f9⟩, fun fs hl => c11.trans (X9.ireturnOut hexec hret rfl (Or.inl rfl) (hb hbytes d46) hl)⟩
end Cmp5
namespace Cmp3
def yN : MethodName := ⟨"java/lang/StringUTF16", "compress", "([CII)[B"⟩
abbrev yB : ByteArray := jdk_52_method_16_code
theorem d0 : decode yB 0 = .ok (.iload_n 2, 1) := by decide +kernel
theorem d1 : decode yB 1 = .ok (.newarray .byte, 2) := by decide +kernel
theorem d3 : decode yB 3 = .ok (.astore_n 3, 1) := by decide +kernel
theorem d4 : decode yB 4 = .ok (.aload_n 0, 1) := by decide +kernel
theorem d5 : decode yB 5 = .ok (.iload_n 1, 1) := by decide +kernel
theorem d6 : decode yB 6 = .ok (.aload_n 3, 1) := by decide +kernel
theorem d7 : decode yB 7 = .ok (.iconst 0, 1) := by decide +kernel
theorem d8 : decode yB 8 = .ok (.iload_n 2, 1) := by decide +kernel
theorem d9 : decode yB 9 = .ok (.invokestatic 115, 3) := by decide +kernel
theorem d12 : decode yB 12 = .ok (.istore 4, 2) := by decide +kernel
theorem d14 : decode yB 14 = .ok (.iload 4, 2) := by decide +kernel
theorem d16 : decode yB 16 = .ok (.iload_n 2, 1) := by decide +kernel
theorem d17 : decode yB 17 = .ok (.if_icmp (.eq) 40, 3) := by decide +kernel
theorem d57 : decode yB 57 = .ok (.aload_n 3, 1) := by decide +kernel
theorem d58 : decode yB 58 = .ok (.areturn, 1) := by decide +kernel
def site : List Cond := [.arrayClass .byte, Cmp5.tab] ++ staticW U16 115 Cmp5.yN
def tab : Cond := tabOf yN yB 6 (some (.array .byte)) site
def P (b : Addr) (A : Cell) (o len : Nat) (args : Array Value) (s : State) : Prop := args = #[.ref b, .int (Int32.ofNat o), .int (Int32.ofNat len)] ∧ Ch b A s ∧ o + len ≤ A.slots.size ∧ len ≤ 536870912 ∧ ∀ i, i < len → ¬ 255 < cv A (o + i)
def E (b : Addr) (A : Cell) (o len : Nat) (r : Option Value) (s u : State) : Prop := NewArr .byte "[B" len (fun j => .int (lo8 (cv A (o + j)))) r s u ∧ u.heap.size = s.heap.size + 1
/-- no char of the range above 255: a new byte[] of their low bytes -/
theorem law (l : Launch) (b : Addr) (A : Cell) (o len : Nat) : Law l yN 3 3 1 18 yB 6 (some (.array .byte)) site (P b A o len) (E b A o len) [] 1 len := by
  refine Law.of_walk (plainFor_of_name (by decide +kernel)) (by decide +kernel) (by decide +kernel) (by decide) (fun _ _ h => by rw [h.1]; rfl) (fun _ U U' hal hh h => ⟨h.1, h.2.1.mv hal hh, h.2.2⟩) (fun r U U' V V' h1 hal h2 h => ⟨NewArr.mv r U U' V V' h1 hal h2 h.1, by rw [h1, h2]; exact h.2⟩) ?_
  intro p e s m args below meth c s₁ X0 hexec hbytes hml hret hlk hnm hown hh0 W hP
  obtain ⟨rfl, hA, l1, l2, hp⟩ := hP
  have a31 := hA.1.2.2.2
  have c1 : Steps p.tables e below (s₁.setTop (entryFrame m #[.ref b, .int (Int32.ofNat o), .int (Int32.ofNat len)] 6)) (s₁.setTop (mkF m 0 #[.val (.ref b), .val (.int (Int32.ofNat o)), .val (.int (Int32.ofNat len)), .unset, .unset, .unset] [])) := entry rfl
  have c2 : Steps p.tables e below (s₁.setTop (entryFrame m #[.ref b, .int (Int32.ofNat o), .int (Int32.ofNat len)] 6)) (s₁.setTop (mkF m 1 #[.val (.ref b), .val (.int (Int32.ofNat o)), .val (.int (Int32.ofNat len)), .unset, .unset, .unset] [.int (Int32.ofNat len)])) := c1.trans (by
    refine XS.iloadN X0.here hexec rfl (hb hbytes d0) rfl ?_
    exact Steps.refl _)
  obtain ⟨T3, B3, X3, ba3, bs3, bv3, bh3, bf3, st3⟩ := X0.anew hexec (atype := .byte) (wk W (.arrayClass .byte)) rfl (by show len * 1 ≤ _; omega) (by omega) (g := (mkF m 1 #[.val (.ref b), .val (.int (Int32.ofNat o)), .val (.int (Int32.ofNat len)), .unset, .unset, .unset] [.int (Int32.ofNat len)])) rfl (hb hbytes d1) (rest := []) rfl (Nat.le_refl _) (by show 0 + len ≤ len; omega)
  rw [hh0] at ba3 st3
  have kp3 : XT.Kept s T3 := (XT.Kept.of_eq hh0).push bh3
  have hA3 := hA.keep X3.warmed.alike (kp3 _ _ hA.1.1)
  have hne : b ≠ s.heap.size := hA.1.ne
  have c4 : Steps p.tables e below (s₁.setTop (entryFrame m #[.ref b, .int (Int32.ofNat o), .int (Int32.ofNat len)] 6)) (T3.setTop (mkF m 3 #[.val (.ref b), .val (.int (Int32.ofNat o)), .val (.int (Int32.ofNat len)), .unset, .unset, .unset] [.ref s.heap.size])) := c2.trans (st3 _ (Steps.refl _))
  have c5 : Steps p.tables e below (s₁.setTop (entryFrame m #[.ref b, .int (Int32.ofNat o), .int (Int32.ofNat len)] 6)) (T3.setTop (mkF m 9 #[.val (.ref b), .val (.int (Int32.ofNat o)), .val (.int (Int32.ofNat len)), .val (.ref s.heap.size), .unset, .unset] [.int (Int32.ofNat len), .int 0, .ref s.heap.size, .int (Int32.ofNat o), .ref b])) := c4.trans (by
    refine XS.astoreN X3.here hexec rfl (hb hbytes d3) rfl rfl rfl ?_
    refine XS.aloadN X3.here hexec rfl (hb hbytes d4) rfl rfl ?_
    refine XS.iloadN X3.here hexec rfl (hb hbytes d5) rfl ?_
    refine XS.aloadN X3.here hexec rfl (hb hbytes d6) rfl rfl ?_
    refine iconstV X3.here hexec rfl 0 (hb hbytes d7) (by decide) ?_
    refine XS.iloadN X3.here hexec rfl (hb hbytes d8) rfl ?_
    exact Steps.refl _)
  obtain ⟨v6, T6, X6, E6, g6⟩ := X3.callS hexec (Cmp5.law l b A s.heap.size B3 o 0 len) hown (wks W (staticW U16 115 Cmp5.yN)) (wk W Cmp5.tab) (W := 0) (Nat.le_of_ble_eq_true rfl) (Nat.le_of_ble_eq_true rfl) (Nat.le_refl _) (by show 0 + len + 0 ≤ len; omega) (g := (mkF m 9 #[.val (.ref b), .val (.int (Int32.ofNat o)), .val (.int (Int32.ofNat len)), .val (.ref s.heap.size), .unset, .unset] [.int (Int32.ofNat len), .int (Int32.ofNat 0), .ref s.heap.size, .int (Int32.ofNat o), .ref b])) rfl (by rw [hml]; rfl) c5 (argsL := [.ref b, .int (Int32.ofNat o), .ref s.heap.size, .int (Int32.ofNat 0), .int (Int32.ofNat len)]) (rest := []) rfl rfl (by show 2 * 0 + 0 ≤ _; decide) (hb hbytes d9) (⟨rfl, hA3, ba3, hne, l1, by rw [bs3]; simp, hp⟩)
  obtain ⟨rfl, B6, p6, f6⟩ := E6
  have c7 : Steps p.tables e below (s₁.setTop (entryFrame m #[.ref b, .int (Int32.ofNat o), .int (Int32.ofNat len)] 6)) (T6.setTop (mkF m 12 #[.val (.ref b), .val (.int (Int32.ofNat o)), .val (.int (Int32.ofNat len)), .val (.ref s.heap.size), .unset, .unset] [.int (Int32.ofNat len)])) := g6
  have c8 : Steps p.tables e below (s₁.setTop (entryFrame m #[.ref b, .int (Int32.ofNat o), .int (Int32.ofNat len)] 6)) (T6.setTop (mkF m 58 #[.val (.ref b), .val (.int (Int32.ofNat o)), .val (.int (Int32.ofNat len)), .val (.ref s.heap.size), .val (.int (Int32.ofNat len)), .unset] [.ref s.heap.size])) := c7.trans (by
    refine XS.istore X6.here hexec rfl (hb hbytes d12) rfl rfl ?_
    refine XS.iload X6.here hexec rfl (hb hbytes d14) rfl ?_
    refine XS.iloadN X6.here hexec rfl (hb hbytes d16) rfl ?_
    refine XS.icmpYes X6.here hexec rfl (pc0 := 17) rfl (hb hbytes d17) rfl (ii_eq_t rfl) (by decide) rfl ?_
    refine XS.aloadN X6.here hexec rfl (hb hbytes d57) rfl rfl ?_
    exact Steps.refl _)
  have X8 := X6.wide (L' := []) (cells' := 1) (slots' := len) (fun x hx hlt => by
    simp only [List.nil_append, copyLocs, List.mem_map, List.mem_range] at hx
    obtain ⟨i, -, rfl⟩ := hx
    exact absurd hlt (Nat.lt_irrefl _)) (Nat.le_refl _) (by omega)
  exact ⟨T6, some (.ref s.heap.size), _, _, _, X8, rfl, rfl, rfl, (fun h => by cases h), ⟨⟨rfl, B6, ba3.like (X3.warmed.alike.symm.trans X6.warmed.alike) p6.1 f6.1 f6.2.1 f6.2.2.1, f6.2.1.trans bv3, by rw [X6.warmed.alike.findClass, f6.1]; exact bf3, by rw [f6.2.2.1, bs3]; simp, fun j hj => by rw [f6.2.2.2 j, if_pos (by omega)]; rfl, kp3.put p6 (Nat.le_refl _)⟩, by rw [p6.2.2, bh3, hh0]; simp⟩, fun fs hl => c8.trans (X8.areturnOut hexec rfl hret rfl (hb hbytes d58) hl)⟩
end Cmp3
namespace CodL
def yN : MethodName := ⟨"java/lang/StringUTF16", "coderFromArrayLen", "([BI)B"⟩
abbrev yB : ByteArray := jdk_52_method_15_code
theorem d0 : decode yB 0 = .ok (.iload_n 1, 1) := by decide +kernel
theorem d1 : decode yB 1 = .ok (.aload_n 0, 1) := by decide +kernel
theorem d2 : decode yB 2 = .ok (.arraylength, 1) := by decide +kernel
theorem d3 : decode yB 3 = .ok (.isub, 1) := by decide +kernel
theorem d4 : decode yB 4 = .ok (.bipush 31, 2) := by decide +kernel
theorem d6 : decode yB 6 = .ok (.iushr, 1) := by decide +kernel
theorem d7 : decode yB 7 = .ok (.i2b, 1) := by decide +kernel
theorem d8 : decode yB 8 = .ok (.ireturn, 1) := by decide +kernel
def site : List Cond := []
def tab : Cond := tabOf yN yB 2 (some .byte) site
def P (d : Addr) (B : Cell) (args : Array Value) (s : State) : Prop := args = #[.ref d, .int (Int32.ofNat B.slots.size)] ∧ Arr .byte d B s
def E (r : Option Value) (s u : State) : Prop := XT.PureE (some (.int 0)) r s u
/-- an array as long as the number of chars: LATIN1 -/
theorem law (l : Launch) (d : Addr) (B : Cell) : Law l yN 2 2 0 0 yB 2 (some .byte) site (P d B) E [] 0 0 := by
  refine Law.of_walk (plainFor_of_name (by decide +kernel)) (by decide +kernel) (by decide +kernel) (by decide) (fun _ _ h => by rw [h.1]; rfl) (fun _ U U' hal hh h => ⟨h.1, h.2.mv hal hh⟩) (fun r U U' V V' h1 hal h2 h => XT.PureE.mv r U U' V V' h1 hal h2 h) ?_
  intro p e s m args below meth c s₁ X0 hexec hbytes hml hret hlk hnm hown hh0 W hP
  obtain ⟨rfl, hB⟩ := hP
  have hB0 := hB.mv X0.warmed.alike hh0
  have c1 : Steps p.tables e below (s₁.setTop (entryFrame m #[.ref d, .int (Int32.ofNat B.slots.size)] 2)) (s₁.setTop (mkF m 0 #[.val (.ref d), .val (.int (Int32.ofNat B.slots.size))] [])) := entry rfl
  have c2 : Steps p.tables e below (s₁.setTop (entryFrame m #[.ref d, .int (Int32.ofNat B.slots.size)] 2)) (s₁.setTop (mkF m 2 #[.val (.ref d), .val (.int (Int32.ofNat B.slots.size))] [.ref d, .int (Int32.ofNat B.slots.size)])) := c1.trans (by
    refine XS.iloadN X0.here hexec rfl (hb hbytes d0) rfl ?_
    refine XS.aloadN X0.here hexec rfl (hb hbytes d1) rfl rfl ?_
    exact Steps.refl _)
  have c3 : Steps p.tables e below (s₁.setTop (entryFrame m #[.ref d, .int (Int32.ofNat B.slots.size)] 2)) (s₁.setTop (mkF m 8 #[.val (.ref d), .val (.int (Int32.ofNat B.slots.size))] [.int (lo8 (ushr (Int32.ofNat B.slots.size - Int32.ofNat B.slots.size) 31))])) := c2.trans (by
    refine X0.alen hexec hB0 rfl rfl (hb hbytes d2) ?_
    refine XS.isub X0.here hexec rfl (hb hbytes d3) rfl ?_
    refine bipushV X0.here hexec rfl 31 (hb hbytes d4) (by decide) ?_
    refine iushr X0.here hexec rfl (hb hbytes d6) rfl ?_
    refine i2b X0.here hexec rfl (hb hbytes d7) rfl ?_
    exact Steps.refl _)
  have e0 : lo8 (ushr (Int32.ofNat B.slots.size - Int32.ofNat B.slots.size) 31) = 0 := by rw [Int32.sub_self]; decide
  rw [e0] at c3
  exact ⟨s₁, some (.int 0), _, _, _, X0, rfl, rfl, rfl, (fun h => by cases h), ⟨rfl, hh0⟩, fun fs hl => c3.trans (X0.ireturnOut hexec hret rfl (Or.inr (Or.inr (Or.inl rfl))) (hb hbytes d8) hl)⟩
end CodL
/-- the String at a is Latin-1 over a new byte[] (the heap's one new cell): the low bytes of the len chars of A from o on; every cell but a is kept -/
def Got (a : Addr) (D : Cell) (fV fC : Field) (A : Cell) (o len : Nat) (r : Option Value) (s u : State) : Prop := r = none ∧ ∃ D' V : Cell, Blank "java/lang/String" a D' u ∧ Same D D' [fV.slot, fC.slot] ∧ D'.slots[fV.slot]? = some (.ref s.heap.size) ∧ D'.slots[fC.slot]? = some (.int 0) ∧ Arr .byte s.heap.size V u ∧ V.vm = .none ∧ u.vm.findClass "[B" = some V.cls ∧ V.slots.size = len ∧ (∀ j, j < len → V.slots[j]? = some (.int (lo8 (cv A (o + j))))) ∧ (∀ (y : Addr) (c : Cell), y ≠ a → s.heap[y]? = some c → u.heap[y]? = some c) ∧ u.heap.size = s.heap.size + 1
theorem Got.mv {a : Addr} {D A : Cell} {fV fC : Field} {o len : Nat} : ∀ r (U U' V V' : State), U'.heap = U.heap → V.vm.Alike V'.vm → V'.heap = V.heap → Got a D fV fC A o len r U V → Got a D fV fC A o len r U' V' :=
  fun r U U' V V' h1 hal h2 ⟨e0, D', X, a1, a2, a3, a4, a5, a6, a7, a8, a9, a10, a11⟩ => ⟨e0, D', X, a1.mv hal h2, a2, by rw [h1]; exact a3, a4, by rw [h1]; exact a5.mv hal h2, a6, by rw [hal.findClass]; exact a7, a8, a9, by rw [h1, h2]; exact a10, by rw [h1, h2]; exact a11⟩
namespace New4
def yN : MethodName := ⟨"java/lang/String", "<init>", "([CIILjava/lang/Void;)V"⟩
abbrev yB : ByteArray := jdk_42_method_149_code
theorem d0 : decode yB 0 = .ok (.aload_n 0, 1) := by decide +kernel
theorem d1 : decode yB 1 = .ok (.invokespecial 1, 3) := by decide +kernel
theorem d4 : decode yB 4 = .ok (.iload_n 3, 1) := by decide +kernel
theorem d5 : decode yB 5 = .ok (.ifCond (.ne) 22, 3) := by decide +kernel
theorem d27 : decode yB 27 = .ok (.getstatic 38, 3) := by decide +kernel
theorem d30 : decode yB 30 = .ok (.ifCond (.eq) 28, 3) := by decide +kernel
theorem d33 : decode yB 33 = .ok (.aload_n 1, 1) := by decide +kernel
theorem d34 : decode yB 34 = .ok (.iload_n 2, 1) := by decide +kernel
theorem d35 : decode yB 35 = .ok (.iload_n 3, 1) := by decide +kernel
theorem d36 : decode yB 36 = .ok (.invokestatic 177, 3) := by decide +kernel
theorem d39 : decode yB 39 = .ok (.astore 5, 2) := by decide +kernel
theorem d41 : decode yB 41 = .ok (.aload_n 0, 1) := by decide +kernel
theorem d42 : decode yB 42 = .ok (.aload 5, 2) := by decide +kernel
theorem d44 : decode yB 44 = .ok (.iload_n 3, 1) := by decide +kernel
theorem d45 : decode yB 45 = .ok (.invokestatic 47, 3) := by decide +kernel
theorem d48 : decode yB 48 = .ok (.putfield 15, 3) := by decide +kernel
theorem d51 : decode yB 51 = .ok (.aload_n 0, 1) := by decide +kernel
theorem d52 : decode yB 52 = .ok (.aload 5, 2) := by decide +kernel
theorem d54 : decode yB 54 = .ok (.putfield 9, 3) := by decide +kernel
theorem d57 : decode yB 57 = .ok (.return_, 1) := by decide +kernel
def site : List Cond := [.fieldLink "java/lang/String" 38 "java/lang/String" "COMPACT_STRINGS" "Z", Cmp3.tab, CodL.tab, .laysFinal "java/lang/String" "java/lang/String" "value" "[B", .fieldLink "java/lang/String" 9 "java/lang/String" "value" "[B", .laysFinal "java/lang/String" "java/lang/String" "coder" "B", .fieldLink "java/lang/String" 15 "java/lang/String" "coder" "B"] ++ objW "java/lang/String" 1 ++ staticW "java/lang/String" 177 Cmp3.yN ++ staticW "java/lang/String" 47 CodL.yN
def tab : Cond := tabOf yN yB 6 none site
def P (a : Addr) (D : Cell) (fV fC : Field) (b : Addr) (A : Cell) (z : Int32) (o len : Nat) (args : Array Value) (s : State) : Prop := args = #[.ref a, .ref b, .int (Int32.ofNat o), .int (Int32.ofNat len), .null] ∧ Blank "java/lang/String" a D s ∧ Found "java/lang/String" "value" "[B" fV s ∧ Found "java/lang/String" "coder" "B" fC s ∧ Ch b A s ∧ StaticIs s "java/lang/String" "COMPACT_STRINGS" "Z" (.int z) ∧ ¬ z = 0 ∧ 0 < len ∧ o + len ≤ A.slots.size ∧ len ≤ 536870912 ∧ ∀ i, i < len → ¬ 255 < cv A (o + i)
def E (a : Addr) (D : Cell) (fV fC : Field) (A : Cell) (o len : Nat) (r : Option Value) (s u : State) : Prop := Got a D fV fC A o len r s u
/-- len > 0, no char of the range above 255: a Latin-1 String of their low bytes -/
theorem law (l : Launch) (a : Addr) (D : Cell) (fV fC : Field) (b : Addr) (A : Cell) (z : Int32) (o len : Nat) : Law l yN 5 4 2 35 yB 6 none site (P a D fV fC b A z o len) (E a D fV fC A o len) [⟨a, fC.slot⟩, ⟨a, fV.slot⟩] 1 len := by
  refine Law.of_walk (plainFor_of_name (by decide +kernel)) (by decide +kernel) (by decide +kernel) (by decide) (fun _ _ h => by rw [h.1]; rfl) (fun _ U U' hal hh h => ⟨h.1, h.2.1.mv hal hh, h.2.2.1.al hal, h.2.2.2.1.al hal, h.2.2.2.2.1.mv hal hh, h.2.2.2.2.2.1.there hal hh, h.2.2.2.2.2.2⟩) (fun r U U' V V' h1 hal h2 h => Got.mv r U U' V V' h1 hal h2 h) ?_
  intro p e s m args below meth c s₁ X0 hexec hbytes hml hret hlk hnm hown hh0 W hP
  obtain ⟨rfl, hB, f1, f2, hA, s1, hz, l0, l1, l2, hp⟩ := hP
  have a31 := hA.1.2.2.2
  have c1 : Steps p.tables e below (s₁.setTop (entryFrame m #[.ref a, .ref b, .int (Int32.ofNat o), .int (Int32.ofNat len), .null] 6)) (s₁.setTop (mkF m 0 #[.val (.ref a), .val (.ref b), .val (.int (Int32.ofNat o)), .val (.int (Int32.ofNat len)), .val .null, .unset] [])) := entry rfl
  have c2 : Steps p.tables e below (s₁.setTop (entryFrame m #[.ref a, .ref b, .int (Int32.ofNat o), .int (Int32.ofNat len), .null] 6)) (s₁.setTop (mkF m 1 #[.val (.ref a), .val (.ref b), .val (.int (Int32.ofNat o)), .val (.int (Int32.ofNat len)), .val .null, .unset] [.ref a])) := c1.trans (by
    refine XS.aloadN X0.here hexec rfl (hb hbytes d0) rfl rfl ?_
    exact Steps.refl _)
  obtain ⟨T3, X3, q3, st3⟩ := X0.oinit hexec hown (wks W (objW "java/lang/String" 1)) (g := (mkF m 1 #[.val (.ref a), .val (.ref b), .val (.int (Int32.ofNat o)), .val (.int (Int32.ofNat len)), .val .null, .unset] [.ref a])) rfl (by rw [hml]; rfl) (rest := []) rfl (hb hbytes d1) (W := 0) (by show 2 * 0 + 0 ≤ _; decide) (Nat.le_of_ble_eq_true rfl) (Nat.le_of_ble_eq_true rfl)
  have hh3 := q3.trans hh0
  have c4 : Steps p.tables e below (s₁.setTop (entryFrame m #[.ref a, .ref b, .int (Int32.ofNat o), .int (Int32.ofNat len), .null] 6)) (T3.setTop (mkF m 27 #[.val (.ref a), .val (.ref b), .val (.int (Int32.ofNat o)), .val (.int (Int32.ofNat len)), .val .null, .unset] [])) := (c2.trans (st3 _ (Steps.refl _))).trans (by
    refine XS.iloadN X3.here hexec rfl (hb hbytes d4) rfl ?_
    refine XS.ifYes X3.here hexec rfl (pc0 := 5) rfl (hb hbytes d5) rfl (i0_ne_t (nz32 (by omega) l0)) (by decide) rfl ?_
    exact Steps.refl _)
  obtain ⟨T5, X5, q5, st5⟩ := X3.sget hexec hown (wk W (.fieldLink "java/lang/String" 38 "java/lang/String" "COMPACT_STRINGS" "Z")) s1 (fun _ _ h => by rw [hh3]; exact h) (g := (mkF m 27 #[.val (.ref a), .val (.ref b), .val (.int (Int32.ofNat o)), .val (.int (Int32.ofNat len)), .val .null, .unset] [])) rfl (hb hbytes d27)
  have hh5 := q5.trans hh3
  have c6 : Steps p.tables e below (s₁.setTop (entryFrame m #[.ref a, .ref b, .int (Int32.ofNat o), .int (Int32.ofNat len), .null] 6)) (T5.setTop (mkF m 30 #[.val (.ref a), .val (.ref b), .val (.int (Int32.ofNat o)), .val (.int (Int32.ofNat len)), .val .null, .unset] [.int z])) := c4.trans (st5 _ (Steps.refl _))
  have c7 : Steps p.tables e below (s₁.setTop (entryFrame m #[.ref a, .ref b, .int (Int32.ofNat o), .int (Int32.ofNat len), .null] 6)) (T5.setTop (mkF m 36 #[.val (.ref a), .val (.ref b), .val (.int (Int32.ofNat o)), .val (.int (Int32.ofNat len)), .val .null, .unset] [.int (Int32.ofNat len), .int (Int32.ofNat o), .ref b])) := c6.trans (by
    refine XS.ifNo X5.here hexec rfl (hb hbytes d30) rfl (i0_eq_f hz) ?_
    refine XS.aloadN X5.here hexec rfl (hb hbytes d33) rfl rfl ?_
    refine XS.iloadN X5.here hexec rfl (hb hbytes d34) rfl ?_
    refine XS.iloadN X5.here hexec rfl (hb hbytes d35) rfl ?_
    exact Steps.refl _)
  obtain ⟨v8, T8, X8, E8, g8⟩ := X5.callS hexec (Cmp3.law l b A o len) hown (wks W (staticW "java/lang/String" 177 Cmp3.yN)) (wk W Cmp3.tab) (W := 0) (Nat.le_of_ble_eq_true rfl) (Nat.le_of_ble_eq_true rfl) (Nat.le_refl _) (by show 0 + len ≤ len; omega) (g := (mkF m 36 #[.val (.ref a), .val (.ref b), .val (.int (Int32.ofNat o)), .val (.int (Int32.ofNat len)), .val .null, .unset] [.int (Int32.ofNat len), .int (Int32.ofNat o), .ref b])) rfl (by rw [hml]; rfl) c7 (argsL := [.ref b, .int (Int32.ofNat o), .int (Int32.ofNat len)]) (rest := []) rfl rfl (by show 2 * 0 + 0 ≤ _; decide) (hb hbytes d36) (⟨rfl, hA.mv X5.warmed.alike hh5, l1, l2, hp⟩)
  obtain ⟨e8, z8⟩ := E8
  obtain ⟨rfl, N, n1, n2, n3, n4, n5, n6⟩ := NewArr.mv _ T5 s _ _ hh5.symm (Vm.Alike.refl _) rfl e8
  rw [hh5] at z8
  have hB1 := hB.keep X8.warmed.alike (n6 _ _ hB.1)
  have hne : s.heap.size ≠ a := (Nat.ne_of_lt (Array.getElem?_eq_some_iff.mp hB.1).1).symm
  have c9 : Steps p.tables e below (s₁.setTop (entryFrame m #[.ref a, .ref b, .int (Int32.ofNat o), .int (Int32.ofNat len), .null] 6)) (T8.setTop (mkF m 39 #[.val (.ref a), .val (.ref b), .val (.int (Int32.ofNat o)), .val (.int (Int32.ofNat len)), .val .null, .unset] [.ref s.heap.size])) := g8
  have c10 : Steps p.tables e below (s₁.setTop (entryFrame m #[.ref a, .ref b, .int (Int32.ofNat o), .int (Int32.ofNat len), .null] 6)) (T8.setTop (mkF m 45 #[.val (.ref a), .val (.ref b), .val (.int (Int32.ofNat o)), .val (.int (Int32.ofNat len)), .val .null, .val (.ref s.heap.size)] [.int (Int32.ofNat N.slots.size), .ref s.heap.size, .ref a])) := by
    have hc : Steps p.tables e below (s₁.setTop (entryFrame m #[.ref a, .ref b, .int (Int32.ofNat o), .int (Int32.ofNat len), .null] 6)) (T8.setTop (mkF m 45 #[.val (.ref a), .val (.ref b), .val (.int (Int32.ofNat o)), .val (.int (Int32.ofNat len)), .val .null, .val (.ref s.heap.size)] [.int (Int32.ofNat len), .ref s.heap.size, .ref a])) := c9.trans (by
      refine XS.astore X8.here hexec rfl (hb hbytes d39) rfl rfl rfl ?_
      refine XS.aloadN X8.here hexec rfl (hb hbytes d41) rfl rfl ?_
      refine XS.aload X8.here hexec rfl (hb hbytes d42) rfl rfl ?_
      refine XS.iloadN X8.here hexec rfl (hb hbytes d44) rfl ?_
      exact Steps.refl _)
    rw [n4]; exact hc
  obtain ⟨v11, T11, X11, E11, g11⟩ := X8.callS hexec (CodL.law l s.heap.size N) hown (wks W (staticW "java/lang/String" 47 CodL.yN)) (wk W CodL.tab) (W := 1) (Nat.le_of_ble_eq_true rfl) (Nat.le_of_ble_eq_true rfl) (Nat.le_refl _) (by show 0 + len + 0 ≤ len; omega) (g := (mkF m 45 #[.val (.ref a), .val (.ref b), .val (.int (Int32.ofNat o)), .val (.int (Int32.ofNat len)), .val .null, .val (.ref s.heap.size)] [.int (Int32.ofNat N.slots.size), .ref s.heap.size, .ref a])) rfl (by rw [hml]; rfl) c10 (argsL := [.ref s.heap.size, .int (Int32.ofNat N.slots.size)]) (rest := [.ref a]) rfl rfl (by show 2 * 0 + (1 + 0) ≤ _; decide) (hb hbytes d45) (⟨rfl, n1⟩)
  obtain ⟨rfl, q11⟩ := E11
  have hB11 := hB1.mv (X8.warmed.alike.symm.trans X11.warmed.alike) q11
  have c12 : Steps p.tables e below (s₁.setTop (entryFrame m #[.ref a, .ref b, .int (Int32.ofNat o), .int (Int32.ofNat len), .null] 6)) (T11.setTop (mkF m 48 #[.val (.ref a), .val (.ref b), .val (.int (Int32.ofNat o)), .val (.int (Int32.ofNat len)), .val .null, .val (.ref s.heap.size)] [.int 0, .ref a])) := g11
  obtain ⟨T13, X13, p13, bl13, sl13, st13⟩ := X11.finit hexec hown (wk W (.fieldLink "java/lang/String" 15 "java/lang/String" "coder" "B")) (Or.inr ⟨_, (wk W (.laysFinal "java/lang/String" "java/lang/String" "coder" "B"))⟩) (Or.inl ⟨rfl, hnm⟩) f2 (Or.inl rfl) hB11 (t := .byte) (by decide +kernel) rfl (g := (mkF m 48 #[.val (.ref a), .val (.ref b), .val (.int (Int32.ofNat o)), .val (.int (Int32.ofNat len)), .val .null, .val (.ref s.heap.size)] [.int 0, .ref a])) rfl (rest := []) rfl (hb hbytes d48)
  have c14 : Steps p.tables e below (s₁.setTop (entryFrame m #[.ref a, .ref b, .int (Int32.ofNat o), .int (Int32.ofNat len), .null] 6)) (T13.setTop (mkF m 54 #[.val (.ref a), .val (.ref b), .val (.int (Int32.ofNat o)), .val (.int (Int32.ofNat len)), .val .null, .val (.ref s.heap.size)] [.ref s.heap.size, .ref a])) := (c12.trans (st13 _ (Steps.refl _))).trans (by
    refine XS.aloadN X13.here hexec rfl (hb hbytes d51) rfl rfl ?_
    refine XS.aload X13.here hexec rfl (hb hbytes d52) rfl rfl ?_
    exact Steps.refl _)
  obtain ⟨T15, X15, p15, bl15, sl15, st15⟩ := X13.finit hexec hown (wk W (.fieldLink "java/lang/String" 9 "java/lang/String" "value" "[B")) (Or.inr ⟨_, (wk W (.laysFinal "java/lang/String" "java/lang/String" "value" "[B"))⟩) (Or.inl ⟨rfl, hnm⟩) f1 (Or.inl rfl) bl13 (t := (.array .byte)) (by decide +kernel) rfl (g := (mkF m 54 #[.val (.ref a), .val (.ref b), .val (.int (Int32.ofNat o)), .val (.int (Int32.ofNat len)), .val .null, .val (.ref s.heap.size)] [.ref s.heap.size, .ref a])) rfl (rest := []) rfl (hb hbytes d54)
  have c16 : Steps p.tables e below (s₁.setTop (entryFrame m #[.ref a, .ref b, .int (Int32.ofNat o), .int (Int32.ofNat len), .null] 6)) (T15.setTop (mkF m 57 #[.val (.ref a), .val (.ref b), .val (.int (Int32.ofNat o)), .val (.int (Int32.ofNat len)), .val .null, .val (.ref s.heap.size)] [])) := c14.trans (st15 _ (Steps.refl _))
  have ap := apart (Or.inr ⟨_, (wk W (.laysFinal "java/lang/String" "java/lang/String" "value" "[B"))⟩) (Or.inr ⟨_, (wk W (.laysFinal "java/lang/String" "java/lang/String" "coder" "B"))⟩) f1 f2 (t₁ := .array .byte) (t₂ := .byte) (by decide +kernel) (by decide +kernel) (by decide)
  have al := X8.warmed.alike.symm.trans X15.warmed.alike
  have n7 : T11.heap[s.heap.size]? = some N := by rw [q11]; exact n1.1
  exact ⟨T15, none, _, _, _, X15, by simp, rfl, by omega, (fun _ => rfl), ⟨rfl, _, N, bl15, ((Same.refl D _).set _ (by simp)).set _ (by simp), sl15, (Cell.slots_setSlot_ne _ ap).trans sl13, n1.keep al (p15.other hne (p13.other hne n7)), n2, by rw [al.findClass]; exact n3, n4, n5, fun y c h1 h2 => p15.other h1 (p13.other h1 (by rw [q11]; exact n6 y c h2)), by rw [p15.2.2, p13.2.2, q11]; exact z8⟩, fun fs hl => c16.trans (X15.returnOut hexec hret (hb hbytes d57) hl)⟩
end New4
namespace New1
def yN : MethodName := ⟨"java/lang/String", "<init>", "([C)V"⟩
abbrev yB : ByteArray := jdk_42_method_3_code
theorem d0 : decode yB 0 = .ok (.aload_n 0, 1) := by decide +kernel
theorem d1 : decode yB 1 = .ok (.aload_n 1, 1) := by decide +kernel
theorem d2 : decode yB 2 = .ok (.iconst 0, 1) := by decide +kernel
theorem d3 : decode yB 3 = .ok (.aload_n 1, 1) := by decide +kernel
theorem d4 : decode yB 4 = .ok (.arraylength, 1) := by decide +kernel
theorem d5 : decode yB 5 = .ok (.aconst_null, 1) := by decide +kernel
theorem d6 : decode yB 6 = .ok (.invokespecial 27, 3) := by decide +kernel
theorem d9 : decode yB 9 = .ok (.return_, 1) := by decide +kernel
def site : List Cond := [New4.tab] ++ initW "java/lang/String" 27 New4.yN
def tab : Cond := tabOf yN yB 2 none site
def P (a : Addr) (D : Cell) (fV fC : Field) (b : Addr) (A : Cell) (z : Int32) (args : Array Value) (s : State) : Prop := args = #[.ref a, .ref b] ∧ Blank "java/lang/String" a D s ∧ Found "java/lang/String" "value" "[B" fV s ∧ Found "java/lang/String" "coder" "B" fC s ∧ Ch b A s ∧ StaticIs s "java/lang/String" "COMPACT_STRINGS" "Z" (.int z) ∧ ¬ z = 0 ∧ 0 < A.slots.size ∧ A.slots.size ≤ 536870912 ∧ ∀ i, i < A.slots.size → ¬ 255 < cv A i
def E (a : Addr) (D : Cell) (fV fC : Field) (A : Cell) (r : Option Value) (s u : State) : Prop := Got a D fV fC A 0 A.slots.size r s u
/-- new String(chars), not empty, no char above 255: a Latin-1 String of their low bytes -/
theorem law (l : Launch) (a : Addr) (D : Cell) (fV fC : Field) (b : Addr) (A : Cell) (z : Int32) : Law l yN 2 1 3 52 yB 2 none site (P a D fV fC b A z) (E a D fV fC A) [⟨a, fC.slot⟩, ⟨a, fV.slot⟩] 1 A.slots.size := by
  refine Law.of_walk (plainFor_of_name (by decide +kernel)) (by decide +kernel) (by decide +kernel) (by decide) (fun _ _ h => by rw [h.1]; rfl) (fun _ U U' hal hh h => ⟨h.1, h.2.1.mv hal hh, h.2.2.1.al hal, h.2.2.2.1.al hal, h.2.2.2.2.1.mv hal hh, h.2.2.2.2.2.1.there hal hh, h.2.2.2.2.2.2⟩) (fun r U U' V V' h1 hal h2 h => Got.mv r U U' V V' h1 hal h2 h) ?_
  intro p e s m args below meth c s₁ X0 hexec hbytes hml hret hlk hnm hown hh0 W hP
  obtain ⟨rfl, hB, f1, f2, hA, s1, hz, l0, l2, hp⟩ := hP
  have c1 : Steps p.tables e below (s₁.setTop (entryFrame m #[.ref a, .ref b] 2)) (s₁.setTop (mkF m 0 #[.val (.ref a), .val (.ref b)] [])) := entry rfl
  have c2 : Steps p.tables e below (s₁.setTop (entryFrame m #[.ref a, .ref b] 2)) (s₁.setTop (mkF m 6 #[.val (.ref a), .val (.ref b)] [.null, .int (Int32.ofNat A.slots.size), .int 0, .ref b, .ref a])) := c1.trans (by
    refine XS.aloadN X0.here hexec rfl (hb hbytes d0) rfl rfl ?_
    refine XS.aloadN X0.here hexec rfl (hb hbytes d1) rfl rfl ?_
    refine iconstV X0.here hexec rfl 0 (hb hbytes d2) (by decide) ?_
    refine XS.aloadN X0.here hexec rfl (hb hbytes d3) rfl rfl ?_
    refine X0.alen hexec (hA.1.mv X0.warmed.alike hh0) rfl rfl (hb hbytes d4) ?_
    refine XS.aconstNull X0.here hexec rfl (hb hbytes d5) ?_
    exact Steps.refl _)
  obtain ⟨v3, T3, X3, E3, g3⟩ := X0.callN hexec (New4.law l a D fV fC b A z 0 A.slots.size) rfl hown (wks W (initW "java/lang/String" 27 New4.yN)) (W New4.tab (by simp only [site, List.mem_cons, List.mem_append, true_or, or_true])) (W := 0) (Nat.le_of_ble_eq_true rfl) (Nat.le_of_ble_eq_true rfl) (Nat.le_refl _) (by show 0 + A.slots.size ≤ A.slots.size; omega) (g := (mkF m 6 #[.val (.ref a), .val (.ref b)] [.null, .int (Int32.ofNat A.slots.size), .int (Int32.ofNat 0), .ref b, .ref a])) rfl (by rw [hml]; rfl) c2 (argsL := [.ref b, .int (Int32.ofNat 0), .int (Int32.ofNat A.slots.size), .null]) (rest := []) rfl rfl (by show 2 * 0 + 0 ≤ _; decide) (hb hbytes d6) (⟨rfl, hB.mv X0.warmed.alike hh0, f1.al X0.warmed.alike, f2.al X0.warmed.alike, hA.mv X0.warmed.alike hh0, s1.there X0.warmed.alike hh0, hz, l0, by omega, l2, fun i hi => by rw [Nat.zero_add]; exact hp i hi⟩)
  have e0 := Got.mv _ s₁ s _ _ hh0.symm (Vm.Alike.refl _) rfl E3
  obtain rfl := e0.1
  have c4 : Steps p.tables e below (s₁.setTop (entryFrame m #[.ref a, .ref b] 2)) (T3.setTop (mkF m 9 #[.val (.ref a), .val (.ref b)] [])) := g3
  exact ⟨T3, none, _, _, _, X3, by simp, rfl, by omega, (fun _ => rfl), e0, fun fs hl => c4.trans (X3.returnOut hexec hret (hb hbytes d9) hl)⟩
theorem pays {l : Launch} {R : Room} {p : Program} {e : Env} {below : List Frame} {s : State} {sargs : Array Value} {len W : Nat} (a : Addr) (D : Cell) (fV fC : Field) (b : Addr) (A : Cell) (z : Int32) (htab : tab.before sargs s = true) (hfr : 4 ≤ R.frames) (hlo : W + 65 ≤ R.locals) :
    Back l R p e below s sargs yN len W (fun A₁ a₁ => A₁.cells + 1 ≤ R.cells ∧ A₁.slots + A.slots.size ≤ R.slots ∧ P a D fV fC b A z a₁ A₁.U) (fun A₁ _ v₁ B₁ => E a D fV fC A v₁ A₁.U B₁.U ∧ B₁.locs = A₁.locs ++ [⟨a, fC.slot⟩, ⟨a, fV.slot⟩] ∧ B₁.cells = A₁.cells + 1 ∧ B₁.slots = A₁.slots + A.slots.size) :=
  (law l a D fV fC b A z).pays htab hfr (by omega)
end New1
end StrChars
namespace StrChars.Road
open Jvm Sem ClassFile Op Lib Jvm.Stand Jvm.Free Jvm.Free.XT
open Jvm.Lib.Cold (StaticIs)
abbrev ST : String := "java/lang/String"
/-- every table word that New1's law asks, flat -/
abbrev words : List Jvm.Cond := [.code New1.yN New1.yB 2 none, .initialized ST, .methodLink ST 27 New4.yN, .instanceMethod New4.yN,
  .code New4.yN New4.yB 6 none, .fieldLink ST 38 ST "COMPACT_STRINGS" "Z", .laysFinal ST ST "value" "[B", .fieldLink ST 9 ST "value" "[B", .laysFinal ST ST "coder" "B", .fieldLink ST 15 ST "coder" "B",
  .methodLink ST 1 Lib.objectInit, .instanceMethod Lib.objectInit, .code Lib.objectInit ⟨#[0xb1]⟩ 1 none, .methodLink ST 177 Cmp3.yN, .static Cmp3.yN, .methodLink ST 47 CodL.yN, .static CodL.yN,
  .code Cmp3.yN Cmp3.yB 6 (some (.array .byte)), .initialized U16, .arrayClass .byte, .methodLink U16 115 Cmp5.yN, .static Cmp5.yN, .code Cmp5.yN Cmp5.yB 7 (some .int), .code CodL.yN CodL.yB 2 (some .byte)]
theorem tab_of {a : Array Value} {s : State} (h : ∀ w ∈ words, w.before a s = true) : New1.tab.before a s = true := by
  have h5 : Cmp5.tab.before a s = true := unparts (wk h (.code Cmp5.yN Cmp5.yB 7 (some .int))) (wks h (.initialized Cmp5.yN.cls :: Cmp5.site))
  have hc : CodL.tab.before a s = true := unparts (wk h (.code CodL.yN CodL.yB 2 (some .byte))) (wks h (.initialized CodL.yN.cls :: CodL.site))
  have q5 : ∀ w ∈ Cmp5.tab :: words, w.before a s = true := fun w hw => (List.mem_cons.mp hw).elim (fun e => e ▸ h5) (h w)
  have h3 : Cmp3.tab.before a s = true := unparts (wk q5 (.code Cmp3.yN Cmp3.yB 6 (some (.array .byte)))) (wks q5 (.initialized Cmp3.yN.cls :: Cmp3.site))
  have q3 : ∀ w ∈ Cmp3.tab :: CodL.tab :: words, w.before a s = true := fun w hw => (List.mem_cons.mp hw).elim (fun e => e ▸ h3) fun hw => (List.mem_cons.mp hw).elim (fun e => e ▸ hc) (h w)
  have h4 : New4.tab.before a s = true := unparts (wk q3 (.code New4.yN New4.yB 6 none)) (wks q3 (.initialized New4.yN.cls :: New4.site))
  have q4 : ∀ w ∈ New4.tab :: words, w.before a s = true := fun w hw => (List.mem_cons.mp hw).elim (fun e => e ▸ h4) (h w)
  exact unparts (wk q4 (.code New1.yN New1.yB 2 none)) (wks q4 (.initialized New1.yN.cls :: New1.site))
/-- the words ride from the start Z to the walk's own state -/
theorem moved {Z s : State} {a0 args : Array Value} (hZ : Z.Warmed39 s.vm) (hw : ∀ d ∈ words, d.before a0 Z = true) : ∀ d ∈ words, d.before args s = true := fun d hd => by
  have q := hw d hd
  have t : ∀ d ∈ words, d = .arrayClass .byte ∨ (d.onTables && d.keepsFace) = true := by decide +kernel
  rcases t d hd with rfl | t
  · exact RoadKit.mvA hZ q
  · exact RoadKit.mv hZ q t
/-- WHAT COMES BACK, over the tables of the start Z: h the heap at the call, h' behind it -/
def Q (Z : State) (x : Addr) (A : Cell) (h : Heap) (v : Option Value) (h' : Heap) (L : List Loc) : Prop := v = none ∧ (∀ y ∈ L, y.base = x) ∧ RoadKit.Keep h h' [x] ∧ h'.size = h.size + 1 ∧ RoadKit.Exa Z h' x ST ∧ RoadKit.Fld Z h' x ST "value" "[B" (.ref h.size) ∧ RoadKit.Fld Z h' x ST "coder" "B" (.int 0) ∧
  (∃ V : Cell, RoadKit.Arr Z h' h.size V .byte ∧ V.vm = .none ∧ Z.vm.findClass "[B" = some V.cls ∧ V.slots.size = A.slots.size ∧ ∀ j, j < A.slots.size → V.slots[j]? = some (.int (lo8 (cv A j)))) ∧
  ∀ (O n d : String) (w : Value), RoadKit.Fld Z h x O n d w → RoadKit.slotOf Z O n d ≠ RoadKit.slotOf Z ST "value" "[B" → RoadKit.slotOf Z O n d ≠ RoadKit.slotOf Z ST "coder" "B" → RoadKit.Fld Z h' x O n d w
/-- **new String(chars) AT A CALL, IN THE ROAD'S FORM**: for specialBack behind newO: x the fresh String, b the char[] with the cell A -/
theorem back {p : Program} {l : Launch} {e : Env} {R : Room} {s : State} {args : Array Value} {below : List Frame} {len W : Nat} {Z : State} {a0 : Array Value} {h : Heap} (hZ : Z.Warmed39 s.vm) (hw : ∀ d ∈ words, d.before a0 Z = true) {kI : Nat} (wi : (Jvm.Cond.instantiable ST kI).before a0 Z = true)
    {x b : Addr} {A : Cell} {z : Int32} {v0 c0 : Value} (E : RoadKit.Exa Z h x ST) (V : RoadKit.Fld Z h x ST "value" "[B" v0) (C : RoadKit.Fld Z h x ST "coder" "B" c0) (K : RoadKit.Arr Z h b A .char) (hty : Typed .char A) (S : RoadKit.Sta Z h ST "COMPACT_STRINGS" "Z" (.int z)) (hz : ¬ z = 0)
    (l0 : 0 < A.slots.size) (l2 : A.slots.size ≤ 536870912) (hp : ∀ i, i < A.slots.size → ¬ 255 < cv A i) (hfr : 4 ≤ R.frames) (hlo : W + 65 ≤ R.locals) :
    Back l R p e below s args New1.yN len W (fun P a => a = #[.ref x, .ref b] ∧ P.U.heap = h ∧ P.cells + 1 ≤ R.cells ∧ P.slots + A.slots.size ≤ R.slots)
      (fun P _ v B => ∃ L, Q Z x A h v B.U.heap L ∧ B.locs = P.locs ++ L ∧ B.cells = P.cells + 1 ∧ B.slots = P.slots + A.slots.size) := by
  intro m meth c P g ig mk a X hg hsize hdg hW hn hp'
  obtain ⟨rfl, rfl, r1, r2⟩ := hp'
  have al : Z.vm.Alike P.U.vm := hZ.alike.trans X.warmed.alike
  obtain ⟨D, cfV, kV, iV, fV, hD, gV, stV, knV, obV, asV, slV⟩ := id V
  obtain ⟨D', cfC, kC, iC, fC, hD', gC, stC, -, -, asC, slC⟩ := id C
  cases hD.symm.trans hD'
  obtain ⟨D2, kD, e1, e2, e3, e4, e5⟩ := id E
  cases hD.symm.trans e1
  obtain ⟨c2, k2, i1, i2, i3, -⟩ := Cond.instantiable_spec wi
  cases e2.symm.trans i1
  cases e3.symm.trans i2
  obtain ⟨kU, u1, u2⟩ := al.2.2 _ _ e3
  have hB : Blank ST x D P.U := ⟨hD, ⟨knV, fun q hq => by rw [hq] at obV; cases obV⟩, by rw [al.findClass]; exact e2, kU, u1, by rw [u2]; exact i3, by rw [u2]; exact e5 i3⟩
  have F1 : Found ST "value" "[B" fV P.U := ⟨SBG.found_only al ⟨cfV, kV, iV, gV⟩, stV⟩
  have F2 : Found ST "coder" "B" fC P.U := ⟨SBG.found_only al ⟨cfC, kC, iC, gC⟩, stC⟩
  have hA : Ch b A P.U := ⟨⟨K.1, State.isArrayOf_alike al K.2.1, K.2.2, by omega⟩, hty⟩
  have hS : StaticIs P.U ST "COMPACT_STRINGS" "Z" (.int z) := by
    obtain ⟨cfS, iS, kS, fS, st, cS, t1, t2, t3, t4, t5, t6, t7⟩ := S
    exact StaticIs.there (s := { Z with heap := P.U.heap }) ⟨cfS, iS, kS, fS, st, cS, t1, t2, t3, t4, t5, (fun q => by rw [q] at t6; cases t6), t7⟩ al rfl
  obtain ⟨v, B, X', ⟨⟨hv, E', V', q1, q2, q3, q4, q5, q6, q7, q8, q9, q10, q11⟩, hl, hc, hs⟩, st⟩ := New1.pays x D fV fC b A z (tab_of (moved hZ hw)) hfr hlo m meth c P g ig mk _ X hg hsize hdg hW hn ⟨r1, r2, rfl, hB, F1, F2, hA, hS, hz, l0, l2, hp⟩
  have al' : Z.vm.Alike B.U.vm := hZ.alike.trans X'.warmed.alike
  have hsz : E'.slots.size = D.slots.size := by
    obtain ⟨-, -, -, kB, w1, w2, w3⟩ := q1
    obtain ⟨kB', y1, y2⟩ := al'.2.2 _ _ e3
    rw [q2.2.1] at w1
    cases w1.symm.trans y1
    rw [w3, e5 i3, y2]
  refine ⟨v, B, X', ⟨_, ⟨hv, ?_, ⟨by omega, fun y cy hy hn' => q10 y cy (by simpa using hn') hy, fun y cy hy => ?_⟩, q11, ⟨E', _, q1.1, by rw [q2.2.1]; exact e2, by rw [q2.2.1]; exact e3, by rw [q2.1]; exact obV, fun _ => by rw [hsz]; exact e5 i3⟩,
    ⟨E', cfV, kV, iV, fV, q1.1, gV, stV, by rw [q2.1]; exact knV, by rw [q2.1]; exact obV, by rw [q2.2.1]; exact asV, q3⟩, ⟨E', cfC, kC, iC, fC, q1.1, gC, stC, by rw [q2.1]; exact knV, by rw [q2.1]; exact obV, by rw [q2.2.1]; exact asC, q4⟩,
    ⟨V', ⟨q5.1, State.isArrayOf_alike al'.symm q5.2.1, q5.2.2.1⟩, q6, by rw [← al'.findClass]; exact q7, q8, fun j hj => by have := q9 j hj; rwa [Nat.zero_add] at this⟩, fun O n d w F n1 n2 => ?_⟩, hl, hc, hs⟩, st⟩
  · intro y hy
    simp only [List.mem_cons, List.not_mem_nil, or_false] at hy
    rcases hy with rfl | rfl <;> rfl
  · by_cases q : y = x
    · subst q
      cases hD.symm.trans hy
      exact ⟨E', q1.1, q2.2.1, q2.1, hsz⟩
    · exact ⟨cy, q10 y cy q hy, rfl, rfl, rfl⟩
  · obtain ⟨D3, cf, k, i, f, g1, g2, g3, g4, g5, g6, g7⟩ := F
    cases hD.symm.trans g1
    simp only [RoadKit.slotOf, g2, gV, gC, Option.map_some, Option.getD_some] at n1 n2
    exact ⟨E', cf, k, i, f, q1.1, g2, g3, by rw [q2.1]; exact g4, by rw [q2.1]; exact g5, by rw [q2.2.1]; exact g6, by rw [q2.2.2 f.slot (by simp [n1, n2])]; exact g7⟩
end StrChars.Road
namespace StrChars.Road
open Jvm Sem ClassFile Op Lib Jvm.Stand Jvm.Free Jvm.Free.XT
/-- WHAT COMES BACK, the byte[] as a list of values -/
def QA (Z : State) (x : Addr) (zn : Int32) (cs : List Int32) (h : Heap) (v : Option Value) (h' : Heap) (L : List Loc) : Prop := v = none ∧ (∀ y ∈ L, y.base = x) ∧ RoadKit.Keep h h' [x] ∧ h'.size = h.size + 1 ∧ RoadKit.Exa Z h' x ST ∧ RoadKit.Fld Z h' x ST "value" "[B" (.ref h.size) ∧ RoadKit.Fld Z h' x ST "coder" "B" (.int 0) ∧
  (∃ kb, Z.vm.findClass "[B" = some kb ∧ RoadKit.Arv Z h' h.size kb .byte zn (cs.map fun c => .int (lo8 c)) (.int 0)) ∧
  ∀ (O n d : String) (w : Value), RoadKit.Fld Z h x O n d w → RoadKit.slotOf Z O n d ≠ RoadKit.slotOf Z ST "value" "[B" → RoadKit.slotOf Z O n d ≠ RoadKit.slotOf Z ST "coder" "B" → RoadKit.Fld Z h' x O n d w
/-- **new String(chars) AT A CALL, THE ARRAYS AS LISTS**: the char[] at b holds cs, not empty, no char above 255 -/
theorem backArv {p : Program} {l : Launch} {e : Env} {R : Room} {s : State} {args : Array Value} {below : List Frame} {len W : Nat} {Z : State} {a0 : Array Value} {h : Heap} (hZ : Z.Warmed39 s.vm) (hw : ∀ d ∈ words, d.before a0 Z = true) {kI : Nat} (wi : (Jvm.Cond.instantiable ST kI).before a0 Z = true)
    {x b : Addr} {k : ClassId} {zn z : Int32} {cs : List Int32} {dv v0 c0 : Value} (E : RoadKit.Exa Z h x ST) (V : RoadKit.Fld Z h x ST "value" "[B" v0) (C : RoadKit.Fld Z h x ST "coder" "B" c0) (K : RoadKit.Arv Z h b k .char zn (cs.map Value.int) dv) (S : RoadKit.Sta Z h ST "COMPACT_STRINGS" "Z" (.int z)) (hz : ¬ z = 0)
    (hlen : zn.toNatClampNeg = cs.length) (h0 : 0 < cs.length) (hbig : cs.length ≤ 536870912) (hall : ∀ c ∈ cs, ¬ 255 < c) (hfr : 4 ≤ R.frames) (hlo : W + 65 ≤ R.locals) :
    Back l R p e below s args New1.yN len W (fun P a => a = #[.ref x, .ref b] ∧ P.U.heap = h ∧ P.cells + 1 ≤ R.cells ∧ P.slots + cs.length ≤ R.slots)
      (fun P _ v B => ∃ L, QA Z x zn cs h v B.U.heap L ∧ B.locs = P.locs ++ L ∧ B.cells = P.cells + 1 ∧ B.slots = P.slots + cs.length) := by
  obtain ⟨A, K1, K2, K3, K4, K5, K6⟩ := K
  have e : A.slots.size = cs.length := K3.trans hlen
  have hat : ∀ (i : Nat) (hi : i < cs.length), A.slots[i]? = some (.int cs[i]) := fun i hi => by rw [K5 i (by omega)]; simp [List.getD_eq_getElem?_getD, hi]
  have hcv : ∀ (i : Nat) (hi : i < cs.length), cv A i = cs[i] := fun i hi => by unfold cv; rw [hat i hi]
  have hty : Typed .char A := fun i v hv => by
    have hi : i < A.slots.size := (Array.getElem?_eq_some_iff.mp hv).1
    have q := K5 i hi
    rw [hv] at q
    rw [Option.some.inj q]
    exact K6 i hi
  refine Back.mono (back hZ hw wi E V C K1 hty S hz (by omega) (by omega) (fun i hi => by rw [hcv i (by omega)]; exact hall _ (List.getElem_mem _)) hfr hlo) (fun P a hp => ⟨hp.1, hp.2.1, hp.2.2.1, by rw [e]; exact hp.2.2.2⟩) (fun P a v B hp hq => ?_)
  obtain ⟨L, ⟨q1, q2, q3, q4, q5, q6, q7, ⟨V', v1, v2, v3, v4, v5⟩, q9⟩, hl, hc, hs⟩ := hq
  refine ⟨L, ⟨q1, q2, q3, q4, q5, q6, q7, ⟨V'.cls, v3, V', v1, rfl, by rw [v4, e, hlen], K4, fun i hi => ?_, fun i hi => ?_⟩, q9⟩, hl, hc, by rw [hs, e]⟩
  · have hi' : i < cs.length := by omega
    rw [v5 i (by omega), hcv i hi']; simp [List.getD_eq_getElem?_getD, hi']
  · have hi' : i < cs.length := by omega
    simp only [List.getD_eq_getElem?_getD, List.getElem?_map, List.getElem?_eq_getElem hi', Option.map_some, Option.getD_some]
    exact fits_lo8 _
end StrChars.Road
namespace StrChars.Road
open Jvm Sem ClassFile Op Lib Jvm.Stand Jvm.Free Jvm.Free.XT
/-- WHAT COMES BACK, in the writer's own shape -/
def QV (Z : State) (x : Addr) (N : Int32) (bs : List Int32) (h : Heap) (n0 : Nat) (v : Option Value) (h' : Heap) (L : List Loc) : Prop := v = none ∧ RoadKit.Fr n0 L ∧ RoadKit.Keep h h' [x] ∧ RoadKit.Exa Z h' x ST ∧ RoadKit.Fld Z h' x ST "coder" "B" (.int 0) ∧
  ∃ (t : Addr) (kb : ClassId), n0 ≤ t ∧ h.size ≤ t ∧ ¬ t = x ∧ RoadKit.Fld Z h' x ST "value" "[B" (.ref t) ∧ RoadKit.Arv Z h' t kb .byte N (bs.map Value.int) (.int 0)
/-- **new String(chars) AT A CALL, FOR THE WRITER**: a char[] of n known ints, each 0 to 255 -/
theorem backV {p : Program} {l : Launch} {e : Env} {R : Room} {s : State} {args : Array Value} {below : List Frame} {len W : Nat} {Z : State} {a0 : Array Value} {h : Heap} (hZ : Z.Warmed39 s.vm) (hw : ∀ d ∈ words, d.before a0 Z = true) {kI : Nat} (wi : (Jvm.Cond.instantiable ST kI).before a0 Z = true)
    {x b : Addr} {kC : ClassId} {cs bs : List Int32} {d v0 c0 : Value} {z N : Int32} {n n0 : Nat} (hx0 : n0 ≤ x) (hh0 : n0 ≤ h.size) (E : RoadKit.Exa Z h x ST) (V : RoadKit.Fld Z h x ST "value" "[B" v0) (C : RoadKit.Fld Z h x ST "coder" "B" c0) (K : RoadKit.Arv Z h b kC .char N (cs.map Value.int) d) (S : RoadKit.Sta Z h ST "COMPACT_STRINGS" "Z" (.int z)) (hz : ¬ z = 0)
    (hn : cs.length = n) (hN : N = Int32.ofNat n) (l0 : 0 < n) (l2 : n ≤ 4000) (hp : ∀ c ∈ cs, ¬ c < 0 ∧ ¬ (255 : Int32) < c) (hb : bs = cs.map (fun c => c.toInt8.toInt32)) (hfr : 4 ≤ R.frames) (hlo : W + 65 ≤ R.locals) :
    Back l R p e below s args (⟨"java/lang/String", "<init>", "([C)V"⟩ : MethodName) len W (fun P a => a = #[.ref x, .ref b] ∧ P.U.heap = h ∧ P.cells + 1 ≤ R.cells ∧ P.slots + n ≤ R.slots)
      (fun P _ v B => ∃ L, QV Z x N bs h n0 v B.U.heap L ∧ B.locs = P.locs ++ L ∧ B.cells = P.cells + 1 ∧ B.slots = P.slots + n) := by
  subst hn hN hb
  refine Back.mono (backArv hZ hw wi E V C K S hz (n32 (by omega)) l0 (by omega) (fun c hc => (hp c hc).2) hfr hlo) (fun P a hp => hp) (fun P a v B hp hq => ?_)
  obtain ⟨L, ⟨q1, q2, q3, q4, q5, q6, q7, ⟨kb, v1, v2⟩, q9⟩, hl, hc, hs⟩ := hq
  exact ⟨L, ⟨q1, fun y hy => by rw [q2 y hy]; exact hx0, q3, q5, q7, h.size, kb, hh0, Nat.le_refl _, Nat.ne_of_gt E.lt, q6, by rw [List.map_map]; exact v2⟩, hl, hc, hs⟩
end StrChars.Road
end Jvm.Pilot.@@N@@
namespace Jvm.Pilot.@@N@@
open Jvm Jvm.ClassFile Sem Op Lib Jvm.Free Jvm.Stand Jvm.LawKit Jvm.RoadKit Bundle Jvm.Pilot.@@N@@.Jvm.D
theorem own_selp {y : MethodName} {s : State} {args : Array Value} {n : Nat} (hy : y.cls ≠ "java/lang/invoke/MethodHandle" ∧ y.cls ≠ "java/lang/invoke/VarHandle") (hins : (Jvm.Cond.instantiable y.cls n).before args s = true) (hpriv : (Jvm.Cond.privateMethod y).before args s = true) (hinst : (Jvm.Cond.instanceMethod y).before args s = true) : (Jvm.Cond.selects y.cls y y).before args s = true := by
  obtain ⟨c, k, hc, hk, -, hniab, -, -⟩ := Cond.instantiable_spec hins
  exact selects_self_of_private hc hk (Bool.or_eq_false_iff.mp hniab).1 (Cond.privateMethod_at hpriv) hinst hy
abbrev own_OT : FieldType := .object "java/lang/Object"
theorem d2_0 : decode jdk_30_method_1_code 0 = .ok (.aload_n 0, 1) := by decide +kernel
theorem d2_1 : decode jdk_30_method_1_code 1 = .ok (.invokespecial 1, 3) := by decide +kernel
theorem d2_4 : decode jdk_30_method_1_code 4 = .ok (.return_, 1) := by decide +kernel
theorem pn_2 : plainName "java/lang/Record" = true := by first | (simp [plainName, overriddenIn]; done) | decide +kernel
theorem ef_rm2 (m : MethodId) (x0 : Addr) : entryFrame m #[(.ref x0)] 1 = mkF m 0 #[.val (.ref x0)] [] := by first | (simp [entryFrame, mkF, argsToLocals, Value.category]; done) | rfl
def Q_rm2 (Z : State) (a : Addr) (h0 : Heap) (n0 : Nat) (rv : Option Value) (h : Heap) (L : List Loc) : Prop := rv = none ∧ Fr n0 L ∧ h = h0
set_option maxRecDepth 65536 in
set_option maxHeartbeats 40000000 in
theorem rm2 (l : Launch) (Z : State) (a0 : Array Value) (hw : ∀ d ∈ tables_1, d.before a0 Z = true) (ws : List Jvm.Cond) (a : Addr) (h0 : Heap) (n0 : Nat) (Z0 : n0 ≤ h0.size) :
    MetFree l (⟨"java/lang/Record", "<init>", "()V"⟩ : MethodName) (head1 (Jvm.Cond.code (⟨"java/lang/Record", "<init>", "()V"⟩ : MethodName) jdk_30_method_1_code 1 none :: ws) ({ frames := 1, cells := 0, slots := 0, locals := 12 } : Room)) (fun av U => av = #[(.ref a)] ∧ Z.Warmed39 U.vm ∧ U.heap = h0) (fun _ _ _ _ _ => True) (fun _ U o U' => ∃ rv L, o = .returned rv ∧ Q_rm2 Z a h0 n0 rv U'.heap L ∧ FrameEnd U o U' L ({ frames := 1, cells := 0, slots := 0, locals := 12 } : Room).cells ({ frames := 1, cells := 0, slots := 0, locals := 12 } : Room).slots) := by
  refine MetFree.of_bodySF (plainFor_of_name pn_2) hisR ?_
  intro p e s m args below meth c s₁ Bd hml0 hP hK
  obtain ⟨rfl, hZ, hh⟩ := hP
  have hx := Bd.exec
  have hby := Bd.bytes
  have hml : c.maxLocals = 1 := hml0
  have hown : s.vm.findClass "java/lang/Record" = some m.cls := findClass_of_methodNamed Bd.named
  have hnm := (name_of_methodNamed Bd.named Bd.method).1
  have X0 : Stand p l e ({ frames := 1, cells := 0, slots := 0, locals := 12 } : Room) s m #[(.ref a)] below meth c s₁ [] 0 0 := Stand.of_body Bd
  have e0 : s₁.heap = h0 := by rw [← hh, Bd.state]; rfl
  have N0 := Fr.nil n0
  have pre0 : ∀ t, Steps p.tables e below (s₁.setTop (mkF m 0 #[.val (.ref a)] [])) t → Steps p.tables e below (s₁.setTop (entryFrame m #[(.ref a)] 1)) t := fun t k => castTop (ef_rm2 m a) k
  have sg1 : ∀ target, Steps p.tables e below (s₁.setTop (mkF m 1 #[.val (.ref a)] [(.ref a)])) target → Steps p.tables e below (s₁.setTop (mkF m 0 #[.val (.ref a)] [])) target := by
    intro target kt
    show Steps p.tables e below (s₁.setTop (mkF m 0 #[.val (.ref a)] [])) _
    refine XS.aloadN X0.here hx rfl (hb hby d2_0) rfl rfl ?_
    exact kt
  obtain ⟨T2, X2, e2, st2⟩ := initO X0 hx hZ hown (hw _ (List.mem_of_getElem? (i := 14) rfl)) (hw _ (List.mem_of_getElem? (i := 15) rfl)) (hw _ (List.mem_of_getElem? (i := 16) rfl)) e0 (g := (mkF m 1 #[.val (.ref a)] [(.ref a)])) rfl (by rw [hml]; rfl) rfl (hb hby d2_1) (by decide) (W := 0) (by show 2 * 0 + _ ≤ _; exact Nat.le_of_eq rfl) (by decide)
  obtain ⟨fs, hr, hrun, hended, hW, hsame⟩ := X2.leave (v := none) (fun _ => rfl)
  refine ⟨_, _, pre0 _ ?_, hrun, hended, _, _, rfl, ?_, ⟨_, rfl⟩, hW, hsame.mono (by decide) (by decide)⟩
  · show Steps p.tables e below (s₁.setTop (mkF m 0 #[.val (.ref a)] [])) _
    refine sg1 _ ?_
    refine st2 _ ?_
    show Steps p.tables e below (T2.setTop (mkF m 4 #[.val (.ref a)] [])) _
    exact X2.returnOut hx Bd.returns (hb hby d2_4) hr
  · show Q_rm2 Z a h0 n0 _ T2.heap _
    rw [e2]
    exact ⟨rfl, N0, rfl⟩
theorem d12_0 : decode jdk_22_method_1_code 0 = .ok (.aload_n 0, 1) := by decide +kernel
theorem d12_1 : decode jdk_22_method_1_code 1 = .ok (.invokespecial 1, 3) := by decide +kernel
theorem d12_4 : decode jdk_22_method_1_code 4 = .ok (.return_, 1) := by decide +kernel
theorem pn_12 : plainName "java/util/AbstractCollection" = true := by first | (simp [plainName, overriddenIn]; done) | decide +kernel
theorem ef_rm12 (m : MethodId) (x0 : Addr) : entryFrame m #[(.ref x0)] 1 = mkF m 0 #[.val (.ref x0)] [] := by first | (simp [entryFrame, mkF, argsToLocals, Value.category]; done) | rfl
def Q_rm12 (Z : State) (a : Addr) (h0 : Heap) (n0 : Nat) (rv : Option Value) (h : Heap) (L : List Loc) : Prop := rv = none ∧ Fr n0 L ∧ h = h0
set_option maxRecDepth 65536 in
set_option maxHeartbeats 40000000 in
theorem rm12 (l : Launch) (Z : State) (a0 : Array Value) (hw : ∀ d ∈ tables_1, d.before a0 Z = true) (ws : List Jvm.Cond) (a : Addr) (h0 : Heap) (n0 : Nat) (Z0 : n0 ≤ h0.size) :
    MetFree l (⟨"java/util/AbstractCollection", "<init>", "()V"⟩ : MethodName) (head1 (Jvm.Cond.code (⟨"java/util/AbstractCollection", "<init>", "()V"⟩ : MethodName) jdk_22_method_1_code 1 none :: ws) ({ frames := 1, cells := 0, slots := 0, locals := 12 } : Room)) (fun av U => av = #[(.ref a)] ∧ Z.Warmed39 U.vm ∧ U.heap = h0) (fun _ _ _ _ _ => True) (fun _ U o U' => ∃ rv L, o = .returned rv ∧ Q_rm12 Z a h0 n0 rv U'.heap L ∧ FrameEnd U o U' L ({ frames := 1, cells := 0, slots := 0, locals := 12 } : Room).cells ({ frames := 1, cells := 0, slots := 0, locals := 12 } : Room).slots) := by
  refine MetFree.of_bodySF (plainFor_of_name pn_12) hisR ?_
  intro p e s m args below meth c s₁ Bd hml0 hP hK
  obtain ⟨rfl, hZ, hh⟩ := hP
  have hx := Bd.exec
  have hby := Bd.bytes
  have hml : c.maxLocals = 1 := hml0
  have hown : s.vm.findClass "java/util/AbstractCollection" = some m.cls := findClass_of_methodNamed Bd.named
  have hnm := (name_of_methodNamed Bd.named Bd.method).1
  have X0 : Stand p l e ({ frames := 1, cells := 0, slots := 0, locals := 12 } : Room) s m #[(.ref a)] below meth c s₁ [] 0 0 := Stand.of_body Bd
  have e0 : s₁.heap = h0 := by rw [← hh, Bd.state]; rfl
  have N0 := Fr.nil n0
  have pre0 : ∀ t, Steps p.tables e below (s₁.setTop (mkF m 0 #[.val (.ref a)] [])) t → Steps p.tables e below (s₁.setTop (entryFrame m #[(.ref a)] 1)) t := fun t k => castTop (ef_rm12 m a) k
  have sg1 : ∀ target, Steps p.tables e below (s₁.setTop (mkF m 1 #[.val (.ref a)] [(.ref a)])) target → Steps p.tables e below (s₁.setTop (mkF m 0 #[.val (.ref a)] [])) target := by
    intro target kt
    show Steps p.tables e below (s₁.setTop (mkF m 0 #[.val (.ref a)] [])) _
    refine XS.aloadN X0.here hx rfl (hb hby d12_0) rfl rfl ?_
    exact kt
  obtain ⟨T2, X2, e2, st2⟩ := initO X0 hx hZ hown (hw _ (List.mem_of_getElem? (i := 75) rfl)) (hw _ (List.mem_of_getElem? (i := 15) rfl)) (hw _ (List.mem_of_getElem? (i := 16) rfl)) e0 (g := (mkF m 1 #[.val (.ref a)] [(.ref a)])) rfl (by rw [hml]; rfl) rfl (hb hby d12_1) (by decide) (W := 0) (by show 2 * 0 + _ ≤ _; exact Nat.le_of_eq rfl) (by decide)
  obtain ⟨fs, hr, hrun, hended, hW, hsame⟩ := X2.leave (v := none) (fun _ => rfl)
  refine ⟨_, _, pre0 _ ?_, hrun, hended, _, _, rfl, ?_, ⟨_, rfl⟩, hW, hsame.mono (by decide) (by decide)⟩
  · show Steps p.tables e below (s₁.setTop (mkF m 0 #[.val (.ref a)] [])) _
    refine sg1 _ ?_
    refine st2 _ ?_
    show Steps p.tables e below (T2.setTop (mkF m 4 #[.val (.ref a)] [])) _
    exact X2.returnOut hx Bd.returns (hb hby d12_4) hr
  · show Q_rm12 Z a h0 n0 _ T2.heap _
    rw [e2]
    exact ⟨rfl, N0, rfl⟩
theorem d18_0 : decode jdk_18_method_1_code 0 = .ok (.aload_n 0, 1) := by decide +kernel
theorem d18_1 : decode jdk_18_method_1_code 1 = .ok (.invokespecial 1, 3) := by decide +kernel
theorem d18_4 : decode jdk_18_method_1_code 4 = .ok (.return_, 1) := by decide +kernel
theorem pn_18 : plainName "java/lang/Number" = true := by first | (simp [plainName, overriddenIn]; done) | decide +kernel
theorem ef_rm18 (m : MethodId) (x0 : Addr) : entryFrame m #[(.ref x0)] 1 = mkF m 0 #[.val (.ref x0)] [] := by first | (simp [entryFrame, mkF, argsToLocals, Value.category]; done) | rfl
def Q_rm18 (Z : State) (a : Addr) (h0 : Heap) (n0 : Nat) (rv : Option Value) (h : Heap) (L : List Loc) : Prop := rv = none ∧ Fr n0 L ∧ h = h0
set_option maxRecDepth 65536 in
set_option maxHeartbeats 40000000 in
theorem rm18 (l : Launch) (Z : State) (a0 : Array Value) (hw : ∀ d ∈ tables_1, d.before a0 Z = true) (ws : List Jvm.Cond) (a : Addr) (h0 : Heap) (n0 : Nat) (Z0 : n0 ≤ h0.size) :
    MetFree l (⟨"java/lang/Number", "<init>", "()V"⟩ : MethodName) (head1 (Jvm.Cond.code (⟨"java/lang/Number", "<init>", "()V"⟩ : MethodName) jdk_18_method_1_code 1 none :: ws) ({ frames := 1, cells := 0, slots := 0, locals := 12 } : Room)) (fun av U => av = #[(.ref a)] ∧ Z.Warmed39 U.vm ∧ U.heap = h0) (fun _ _ _ _ _ => True) (fun _ U o U' => ∃ rv L, o = .returned rv ∧ Q_rm18 Z a h0 n0 rv U'.heap L ∧ FrameEnd U o U' L ({ frames := 1, cells := 0, slots := 0, locals := 12 } : Room).cells ({ frames := 1, cells := 0, slots := 0, locals := 12 } : Room).slots) := by
  refine MetFree.of_bodySF (plainFor_of_name pn_18) hisR ?_
  intro p e s m args below meth c s₁ Bd hml0 hP hK
  obtain ⟨rfl, hZ, hh⟩ := hP
  have hx := Bd.exec
  have hby := Bd.bytes
  have hml : c.maxLocals = 1 := hml0
  have hown : s.vm.findClass "java/lang/Number" = some m.cls := findClass_of_methodNamed Bd.named
  have hnm := (name_of_methodNamed Bd.named Bd.method).1
  have X0 : Stand p l e ({ frames := 1, cells := 0, slots := 0, locals := 12 } : Room) s m #[(.ref a)] below meth c s₁ [] 0 0 := Stand.of_body Bd
  have e0 : s₁.heap = h0 := by rw [← hh, Bd.state]; rfl
  have N0 := Fr.nil n0
  have pre0 : ∀ t, Steps p.tables e below (s₁.setTop (mkF m 0 #[.val (.ref a)] [])) t → Steps p.tables e below (s₁.setTop (entryFrame m #[(.ref a)] 1)) t := fun t k => castTop (ef_rm18 m a) k
  have sg1 : ∀ target, Steps p.tables e below (s₁.setTop (mkF m 1 #[.val (.ref a)] [(.ref a)])) target → Steps p.tables e below (s₁.setTop (mkF m 0 #[.val (.ref a)] [])) target := by
    intro target kt
    show Steps p.tables e below (s₁.setTop (mkF m 0 #[.val (.ref a)] [])) _
    refine XS.aloadN X0.here hx rfl (hb hby d18_0) rfl rfl ?_
    exact kt
  obtain ⟨T2, X2, e2, st2⟩ := initO X0 hx hZ hown (hw _ (List.mem_of_getElem? (i := 120) rfl)) (hw _ (List.mem_of_getElem? (i := 15) rfl)) (hw _ (List.mem_of_getElem? (i := 16) rfl)) e0 (g := (mkF m 1 #[.val (.ref a)] [(.ref a)])) rfl (by rw [hml]; rfl) rfl (hb hby d18_1) (by decide) (W := 0) (by show 2 * 0 + _ ≤ _; exact Nat.le_of_eq rfl) (by decide)
  obtain ⟨fs, hr, hrun, hended, hW, hsame⟩ := X2.leave (v := none) (fun _ => rfl)
  refine ⟨_, _, pre0 _ ?_, hrun, hended, _, _, rfl, ?_, ⟨_, rfl⟩, hW, hsame.mono (by decide) (by decide)⟩
  · show Steps p.tables e below (s₁.setTop (mkF m 0 #[.val (.ref a)] [])) _
    refine sg1 _ ?_
    refine st2 _ ?_
    show Steps p.tables e below (T2.setTop (mkF m 4 #[.val (.ref a)] [])) _
    exact X2.returnOut hx Bd.returns (hb hby d18_4) hr
  · show Q_rm18 Z a h0 n0 _ T2.heap _
    rw [e2]
    exact ⟨rfl, N0, rfl⟩
theorem d11_0 : decode jdk_39_method_1_code 0 = .ok (.aload_n 0, 1) := by decide +kernel
theorem d11_1 : decode jdk_39_method_1_code 1 = .ok (.invokespecial 1, 3) := by decide +kernel
theorem pd_3 : parseMethodDescriptor "()V" = some ⟨[], none⟩ := by decide +kernel
theorem d11_4 : decode jdk_39_method_1_code 4 = .ok (.aload_n 0, 1) := by decide +kernel
theorem d11_5 : decode jdk_39_method_1_code 5 = .ok (.iconst 0, 1) := by decide +kernel
theorem d11_6 : decode jdk_39_method_1_code 6 = .ok (.putfield 7, 3) := by decide +kernel
theorem d11_9 : decode jdk_39_method_1_code 9 = .ok (.return_, 1) := by decide +kernel
theorem pn_11 : plainName "java/util/AbstractList" = true := by first | (simp [plainName, overriddenIn]; done) | decide +kernel
theorem ef_rm11 (m : MethodId) (x0 : Addr) : entryFrame m #[(.ref x0)] 1 = mkF m 0 #[.val (.ref x0)] [] := by first | (simp [entryFrame, mkF, argsToLocals, Value.category]; done) | rfl
def Q_rm11 (Z : State) (a : Addr) (u : Value) (h0 : Heap) (n0 : Nat) (rv : Option Value) (h : Heap) (L : List Loc) : Prop := rv = none ∧ Fr n0 L ∧ Keep h0 h [a] ∧ Exa Z h a "java/util/ArrayList" ∧ Fld Z h a "java/util/AbstractList" "modCount" "I" (.int (0 : Int32)) ∧ Fld Z h a "java/util/ArrayList" "elementData" "[Ljava/lang/Object;" u ∧ Fld Z h a "java/util/ArrayList" "size" "I" (.int (0 : Int32))
set_option maxRecDepth 65536 in
set_option maxHeartbeats 40000000 in
theorem rm11 (l : Launch) (Z : State) (a0 : Array Value) (hw : ∀ d ∈ tables_1, d.before a0 Z = true) (ws : List Jvm.Cond) (a : Addr) (u : Value) (h0 : Heap) (n0 : Nat) (Z0 : n0 ≤ h0.size) (E_a : Exa Z h0 a "java/util/ArrayList") (F1 : Fld Z h0 a "java/util/AbstractList" "modCount" "I" (.int (0 : Int32))) (F2 : Fld Z h0 a "java/util/ArrayList" "elementData" "[Ljava/lang/Object;" u) (F3 : Fld Z h0 a "java/util/ArrayList" "size" "I" (.int (0 : Int32))) (g_a : n0 ≤ a) :
    MetFree l (⟨"java/util/AbstractList", "<init>", "()V"⟩ : MethodName) (head1 (Jvm.Cond.code (⟨"java/util/AbstractList", "<init>", "()V"⟩ : MethodName) jdk_39_method_1_code 1 none :: ws) ({ frames := 2, cells := 0, slots := 0, locals := 24 } : Room)) (fun av U => av = #[(.ref a)] ∧ Z.Warmed39 U.vm ∧ U.heap = h0) (fun _ _ _ _ _ => True) (fun _ U o U' => ∃ rv L, o = .returned rv ∧ Q_rm11 Z a u h0 n0 rv U'.heap L ∧ FrameEnd U o U' L ({ frames := 2, cells := 0, slots := 0, locals := 24 } : Room).cells ({ frames := 2, cells := 0, slots := 0, locals := 24 } : Room).slots) := by
  refine MetFree.of_bodySF (plainFor_of_name pn_11) hisR ?_
  intro p e s m args below meth c s₁ Bd hml0 hP hK
  obtain ⟨rfl, hZ, hh⟩ := hP
  have hx := Bd.exec
  have hby := Bd.bytes
  have hml : c.maxLocals = 1 := hml0
  have hown : s.vm.findClass "java/util/AbstractList" = some m.cls := findClass_of_methodNamed Bd.named
  have hnm := (name_of_methodNamed Bd.named Bd.method).1
  have X0 : Stand p l e ({ frames := 2, cells := 0, slots := 0, locals := 24 } : Room) s m #[(.ref a)] below meth c s₁ [] 0 0 := Stand.of_body Bd
  have e0 : s₁.heap = h0 := by rw [← hh, Bd.state]; rfl
  have N0 := Fr.nil n0
  have pre0 : ∀ t, Steps p.tables e below (s₁.setTop (mkF m 0 #[.val (.ref a)] [])) t → Steps p.tables e below (s₁.setTop (entryFrame m #[(.ref a)] 1)) t := fun t k => castTop (ef_rm11 m a) k
  have sg1 : ∀ target, Steps p.tables e below (s₁.setTop (mkF m 1 #[.val (.ref a)] [(.ref a)])) target → Steps p.tables e below (s₁.setTop (mkF m 0 #[.val (.ref a)] [])) target := by
    intro target kt
    show Steps p.tables e below (s₁.setTop (mkF m 0 #[.val (.ref a)] [])) _
    refine XS.aloadN X0.here hx rfl (hb hby d11_0) rfl rfl ?_
    exact kt
  obtain ⟨_, _, ⟨T2, L2, k2, n2⟩, -, X2, ⟨Lc2, hQ2, l2, y2, z2⟩, st2⟩ := X0.specialBack hx (y := (⟨"java/util/AbstractCollection", "<init>", "()V"⟩ : MethodName)) rfl hown (mvT hZ (hw _ (List.mem_of_getElem? (i := 69) rfl))) (mvT hZ (hw _ (List.mem_of_getElem? (i := 70) rfl))) (mvT hZ (hw _ (List.mem_of_getElem? (i := 74) rfl))) (by decide) (backOf (W := 0) (rm12 l Z a0 hw [] a h0 n0 Z0 ) hZ (hw _ (List.mem_of_getElem? (i := 74) rfl)) (hw _ (List.mem_of_getElem? (i := 73) rfl)) (by decide) (by decide)) (g := (mkF m 1 #[.val (.ref a)] [(.ref a)])) rfl (by rw [hml]; rfl) (Steps.refl _) (a := a) (argsL := []) (rest := []) (lenOf pd_3 rfl) rfl (by show 2 * 0 + _ ≤ _; exact Nat.le_of_eq rfl) (hb hby d11_1) (fun _ _ => ⟨rfl, e0, (by decide : 0 + 0 ≤ _), (by decide : 0 + 0 ≤ _)⟩)
  dsimp only [Pt.U, Pt.locs, Pt.cells, Pt.slots] at X2 l2 y2 z2 st2 hQ2
  subst l2 y2 z2
  obtain ⟨rfl, N2q, c2_0⟩ := hQ2
  have N2 := Fr.app N0 N2q
  have sg3 : ∀ target, Steps p.tables e below (T2.setTop (mkF m 6 #[.val (.ref a)] [(.int (0 : Int32)), (.ref a)])) target → Steps p.tables e below (T2.setTop (mkF m 4 #[.val (.ref a)] [])) target := by
    intro target kt
    show Steps p.tables e below (T2.setTop (mkF m 4 #[.val (.ref a)] [])) _
    refine XS.aloadN X2.here hx rfl (hb hby d11_4) rfl rfl ?_
    show Steps p.tables e below (T2.setTop (mkF m 5 #[.val (.ref a)] [(.ref a)])) _
    refine XS.iconst X2.here hx rfl (hb hby d11_5) ?_
    exact kt
  obtain ⟨T4, h4, X4, e4, W4, st4⟩ := putF X2 hx hZ hown (host := "") (Or.inl (hw _ (List.mem_of_getElem? (i := 76) rfl))) Via.refl c2_0 F1 E_a (Or.inl (hw _ (List.mem_of_getElem? (i := 77) rfl))) (hw _ (List.mem_of_getElem? (i := 58) rfl)) (ty := .int) (by decide) rfl rfl (g := (mkF m 6 #[.val (.ref a)] [(.int (0 : Int32)), (.ref a)])) rfl rfl (hb hby d11_6)
  have N4 := Fr.snoc X4 N2 g_a
  have Zs4 : n0 ≤ h4.size := by rw [W4.size]; exact Z0
  have K4 : Keep h0 h4 [a] := (Keep.refl h0 [a]).wr W4 (Or.inl (List.mem_of_getElem? (i := 0) rfl))
  have f5 : Exa Z h4 a "java/util/ArrayList" := E_a.wr W4
  have f6 : Fld Z h4 a "java/util/ArrayList" "elementData" "[Ljava/lang/Object;" u := F2.other W4 (Or.inr (slot_ne (Or.inl (hw _ (List.mem_of_getElem? (i := 80) rfl))) (Or.inl (hw _ (List.mem_of_getElem? (i := 77) rfl))) (by decide) (t := (.array (.object "java/lang/Object"))) (t' := .int) (by decide) (by decide)))
  have f7 : Fld Z h4 a "java/util/ArrayList" "size" "I" (.int (0 : Int32)) := F3.other W4 (Or.inr (slot_ne (Or.inl (hw _ (List.mem_of_getElem? (i := 135) rfl))) (Or.inl (hw _ (List.mem_of_getElem? (i := 77) rfl))) (by decide) (t := .int) (t' := .int) (by decide) (by decide)))
  have f8 : Fld Z h4 a "java/util/AbstractList" "modCount" "I" (.int (0 : Int32)) := F1.same W4
  obtain ⟨fs, hr, hrun, hended, hW, hsame⟩ := X4.leave (v := none) (fun _ => rfl)
  refine ⟨_, _, pre0 _ ?_, hrun, hended, _, _, rfl, ?_, ⟨_, rfl⟩, hW, hsame.mono (by decide) (by decide)⟩
  · show Steps p.tables e below (s₁.setTop (mkF m 0 #[.val (.ref a)] [])) _
    refine sg1 _ ?_
    refine st2.trans ?_
    refine sg3 _ ?_
    refine st4 _ ?_
    show Steps p.tables e below (T4.setTop (mkF m 9 #[.val (.ref a)] [])) _
    exact X4.returnOut hx Bd.returns (hb hby d11_9) hr
  · show Q_rm11 Z a u h0 n0 _ T4.heap _
    rw [e4]
    exact ⟨rfl, N4, K4, f5, f8, f6, f7⟩
theorem d10_0 : decode jdk_38_method_2_code 0 = .ok (.aload_n 0, 1) := by decide +kernel
theorem d10_1 : decode jdk_38_method_2_code 1 = .ok (.invokespecial 1, 3) := by decide +kernel
theorem d10_4 : decode jdk_38_method_2_code 4 = .ok (.aload_n 0, 1) := by decide +kernel
theorem d10_5 : decode jdk_38_method_2_code 5 = .ok (.getstatic 39, 3) := by decide +kernel
theorem d10_8 : decode jdk_38_method_2_code 8 = .ok (.putfield 9, 3) := by decide +kernel
theorem d10_11 : decode jdk_38_method_2_code 11 = .ok (.return_, 1) := by decide +kernel
theorem pn_10 : plainName "java/util/ArrayList" = true := by first | (simp [plainName, overriddenIn]; done) | decide +kernel
theorem ef_rm10 (m : MethodId) (x0 : Addr) : entryFrame m #[(.ref x0)] 1 = mkF m 0 #[.val (.ref x0)] [] := by first | (simp [entryFrame, mkF, argsToLocals, Value.category]; done) | rfl
def Q_rm10 (Z : State) (a : Addr) (d0 : Addr) (h0 : Heap) (n0 : Nat) (rv : Option Value) (h : Heap) (L : List Loc) : Prop := rv = none ∧ Fr n0 L ∧ Keep h0 h [a] ∧ Exa Z h a "java/util/ArrayList" ∧ Fld Z h a "java/util/AbstractList" "modCount" "I" (.int (0 : Int32)) ∧ Fld Z h a "java/util/ArrayList" "elementData" "[Ljava/lang/Object;" (.ref d0) ∧ Fld Z h a "java/util/ArrayList" "size" "I" (.int (0 : Int32))
set_option maxRecDepth 65536 in
set_option maxHeartbeats 40000000 in
theorem rm10 (l : Launch) (Z : State) (a0 : Array Value) (hw : ∀ d ∈ tables_1, d.before a0 Z = true) (ws : List Jvm.Cond) (a : Addr) (d0 : Addr) (h0 : Heap) (n0 : Nat) (Z0 : n0 ≤ h0.size) (E_a : Exa Z h0 a "java/util/ArrayList") (F1 : Fld Z h0 a "java/util/AbstractList" "modCount" "I" (.int (0 : Int32))) (F2 : Fld Z h0 a "java/util/ArrayList" "elementData" "[Ljava/lang/Object;" .null) (F3 : Fld Z h0 a "java/util/ArrayList" "size" "I" (.int (0 : Int32))) (g_a : n0 ≤ a) (O : Old Z n0 h0) (S0 : Sta Z Z.heap "java/util/ArrayList" "DEFAULTCAPACITY_EMPTY_ELEMENTDATA" "[Ljava/lang/Object;" (.ref d0)) :
    MetFree l (⟨"java/util/ArrayList", "<init>", "()V"⟩ : MethodName) (head1 (Jvm.Cond.code (⟨"java/util/ArrayList", "<init>", "()V"⟩ : MethodName) jdk_38_method_2_code 1 none :: ws) ({ frames := 3, cells := 0, slots := 0, locals := 36 } : Room)) (fun av U => av = #[(.ref a)] ∧ Z.Warmed39 U.vm ∧ U.heap = h0) (fun _ _ _ _ _ => True) (fun _ U o U' => ∃ rv L, o = .returned rv ∧ Q_rm10 Z a d0 h0 n0 rv U'.heap L ∧ FrameEnd U o U' L ({ frames := 3, cells := 0, slots := 0, locals := 36 } : Room).cells ({ frames := 3, cells := 0, slots := 0, locals := 36 } : Room).slots) := by
  refine MetFree.of_bodySF (plainFor_of_name pn_10) hisR ?_
  intro p e s m args below meth c s₁ Bd hml0 hP hK
  obtain ⟨rfl, hZ, hh⟩ := hP
  have hx := Bd.exec
  have hby := Bd.bytes
  have hml : c.maxLocals = 1 := hml0
  have hown : s.vm.findClass "java/util/ArrayList" = some m.cls := findClass_of_methodNamed Bd.named
  have hnm := (name_of_methodNamed Bd.named Bd.method).1
  have X0 : Stand p l e ({ frames := 3, cells := 0, slots := 0, locals := 36 } : Room) s m #[(.ref a)] below meth c s₁ [] 0 0 := Stand.of_body Bd
  have e0 : s₁.heap = h0 := by rw [← hh, Bd.state]; rfl
  have N0 := Fr.nil n0
  have pre0 : ∀ t, Steps p.tables e below (s₁.setTop (mkF m 0 #[.val (.ref a)] [])) t → Steps p.tables e below (s₁.setTop (entryFrame m #[(.ref a)] 1)) t := fun t k => castTop (ef_rm10 m a) k
  have sg1 : ∀ target, Steps p.tables e below (s₁.setTop (mkF m 1 #[.val (.ref a)] [(.ref a)])) target → Steps p.tables e below (s₁.setTop (mkF m 0 #[.val (.ref a)] [])) target := by
    intro target kt
    show Steps p.tables e below (s₁.setTop (mkF m 0 #[.val (.ref a)] [])) _
    refine XS.aloadN X0.here hx rfl (hb hby d10_0) rfl rfl ?_
    exact kt
  obtain ⟨_, _, ⟨T2, L2, k2, n2⟩, -, X2, ⟨Lc2, hQ2, l2, y2, z2⟩, st2⟩ := X0.specialBack hx (y := (⟨"java/util/AbstractList", "<init>", "()V"⟩ : MethodName)) rfl hown (mvT hZ (hw _ (List.mem_of_getElem? (i := 63) rfl))) (mvT hZ (hw _ (List.mem_of_getElem? (i := 64) rfl))) (mvT hZ (hw _ (List.mem_of_getElem? (i := 68) rfl))) (by decide) (backOf (W := 0) (rm11 l Z a0 hw [] a .null h0 n0 Z0 E_a F1 F2 F3 g_a) hZ (hw _ (List.mem_of_getElem? (i := 68) rfl)) (hw _ (List.mem_of_getElem? (i := 67) rfl)) (by decide) (by decide)) (g := (mkF m 1 #[.val (.ref a)] [(.ref a)])) rfl (by rw [hml]; rfl) (Steps.refl _) (a := a) (argsL := []) (rest := []) (lenOf pd_3 rfl) rfl (by show 2 * 0 + _ ≤ _; exact Nat.le_of_eq rfl) (hb hby d10_1) (fun _ _ => ⟨rfl, e0, (by decide : 0 + 0 ≤ _), (by decide : 0 + 0 ≤ _)⟩)
  dsimp only [Pt.U, Pt.locs, Pt.cells, Pt.slots] at X2 l2 y2 z2 st2 hQ2
  subst l2 y2 z2
  obtain ⟨rfl, N2q, c2_0, c2_1, c2_2, c2_3, c2_4⟩ := hQ2
  have N2 := Fr.app N0 N2q
  have Zs2 : n0 ≤ T2.heap.size := Nat.le_trans Z0 c2_0.1
  have K2 : Keep h0 T2.heap [a] := (Keep.refl h0 [a]).trans c2_0 (allS (Or.inl (List.mem_of_getElem? (i := 0) rfl)) all0)
  have f3 : Old Z n0 T2.heap := O.keep c2_0 (allS g_a all0)
  have f4 : Exa Z T2.heap a "java/util/ArrayList" := c2_1
  have f5 : Fld Z T2.heap a "java/util/AbstractList" "modCount" "I" (.int (0 : Int32)) := c2_2
  have f6 : Fld Z T2.heap a "java/util/ArrayList" "elementData" "[Ljava/lang/Object;" .null := c2_3
  have f7 : Fld Z T2.heap a "java/util/ArrayList" "size" "I" (.int (0 : Int32)) := c2_4
  have sg8 : ∀ target, Steps p.tables e below (T2.setTop (mkF m 5 #[.val (.ref a)] [(.ref a)])) target → Steps p.tables e below (T2.setTop (mkF m 4 #[.val (.ref a)] [])) target := by
    intro target kt
    show Steps p.tables e below (T2.setTop (mkF m 4 #[.val (.ref a)] [])) _
    refine XS.aloadN X2.here hx rfl (hb hby d10_4) rfl rfl ?_
    exact kt
  obtain ⟨T9, X9, e9, st9⟩ := getS2 X2 hx hZ hown (host := "") (Or.inl (hw _ (List.mem_of_getElem? (i := 78) rfl))) Via.refl rfl (S0.ext f3.2) (g := (mkF m 5 #[.val (.ref a)] [(.ref a)])) rfl (hb hby d10_5)
  obtain ⟨T10, h10, X10, e10, W10, st10⟩ := putF X9 hx hZ hown (host := "") (Or.inl (hw _ (List.mem_of_getElem? (i := 79) rfl))) Via.refl e9 f6 f4 (Or.inl (hw _ (List.mem_of_getElem? (i := 80) rfl))) (hw _ (List.mem_of_getElem? (i := 58) rfl)) (ty := (.array (.object "java/lang/Object"))) (by decide) rfl rfl (g := (mkF m 8 #[.val (.ref a)] [(.ref d0), (.ref a)])) rfl rfl (hb hby d10_8)
  have N10 := Fr.snoc X10 N2 g_a
  have Zs10 : n0 ≤ h10.size := by rw [W10.size]; exact Zs2
  have K10 : Keep h0 h10 [a] := K2.wr W10 (Or.inl (List.mem_of_getElem? (i := 0) rfl))
  have f11 : Old Z n0 h10 := f3.wr W10 g_a
  have f12 : Exa Z h10 a "java/util/ArrayList" := f4.wr W10
  have f13 : Fld Z h10 a "java/util/AbstractList" "modCount" "I" (.int (0 : Int32)) := f5.other W10 (Or.inr (slot_ne (Or.inl (hw _ (List.mem_of_getElem? (i := 77) rfl))) (Or.inl (hw _ (List.mem_of_getElem? (i := 80) rfl))) (by decide) (t := .int) (t' := (.array (.object "java/lang/Object"))) (by decide) (by decide)))
  have f14 : Fld Z h10 a "java/util/ArrayList" "size" "I" (.int (0 : Int32)) := f7.other W10 (Or.inr (slot_ne (Or.inl (hw _ (List.mem_of_getElem? (i := 135) rfl))) (Or.inl (hw _ (List.mem_of_getElem? (i := 80) rfl))) (by decide) (t := .int) (t' := (.array (.object "java/lang/Object"))) (by decide) (by decide)))
  have f15 : Fld Z h10 a "java/util/ArrayList" "elementData" "[Ljava/lang/Object;" (.ref d0) := f6.same W10
  obtain ⟨fs, hr, hrun, hended, hW, hsame⟩ := X10.leave (v := none) (fun _ => rfl)
  refine ⟨_, _, pre0 _ ?_, hrun, hended, _, _, rfl, ?_, ⟨_, rfl⟩, hW, hsame.mono (by decide) (by decide)⟩
  · show Steps p.tables e below (s₁.setTop (mkF m 0 #[.val (.ref a)] [])) _
    refine sg1 _ ?_
    refine st2.trans ?_
    refine sg8 _ ?_
    refine st9 _ ?_
    refine st10 _ ?_
    show Steps p.tables e below (T10.setTop (mkF m 11 #[.val (.ref a)] [])) _
    exact X10.returnOut hx Bd.returns (hb hby d10_11) hr
  · show Q_rm10 Z a d0 h0 n0 _ T10.heap _
    rw [e10]
    exact ⟨rfl, N10, K10, f12, f13, f15, f14⟩
theorem d9_0 : decode prog_34_method_1_code 0 = .ok (.aload_n 0, 1) := by decide +kernel
theorem d9_1 : decode prog_34_method_1_code 1 = .ok (.invokespecial 1, 3) := by decide +kernel
theorem d9_4 : decode prog_34_method_1_code 4 = .ok (.aload_n 0, 1) := by decide +kernel
theorem d9_5 : decode prog_34_method_1_code 5 = .ok (.new 7, 3) := by decide +kernel
theorem d9_8 : decode prog_34_method_1_code 8 = .ok (.dup, 1) := by decide +kernel
theorem d9_9 : decode prog_34_method_1_code 9 = .ok (.invokespecial 9, 3) := by decide +kernel
theorem d9_12 : decode prog_34_method_1_code 12 = .ok (.putfield 10, 3) := by decide +kernel
theorem d9_15 : decode prog_34_method_1_code 15 = .ok (.aload_n 0, 1) := by decide +kernel
theorem d9_16 : decode prog_34_method_1_code 16 = .ok (.new 7, 3) := by decide +kernel
theorem d9_19 : decode prog_34_method_1_code 19 = .ok (.dup, 1) := by decide +kernel
theorem d9_20 : decode prog_34_method_1_code 20 = .ok (.invokespecial 9, 3) := by decide +kernel
theorem d9_23 : decode prog_34_method_1_code 23 = .ok (.putfield 16, 3) := by decide +kernel
theorem d9_26 : decode prog_34_method_1_code 26 = .ok (.aload_n 0, 1) := by decide +kernel
theorem d9_27 : decode prog_34_method_1_code 27 = .ok (.aload_n 1, 1) := by decide +kernel
theorem d9_28 : decode prog_34_method_1_code 28 = .ok (.putfield 19, 3) := by decide +kernel
theorem d9_31 : decode prog_34_method_1_code 31 = .ok (.aload_n 0, 1) := by decide +kernel
theorem d9_32 : decode prog_34_method_1_code 32 = .ok (.iload_n 2, 1) := by decide +kernel
theorem d9_33 : decode prog_34_method_1_code 33 = .ok (.putfield 23, 3) := by decide +kernel
theorem d9_36 : decode prog_34_method_1_code 36 = .ok (.return_, 1) := by decide +kernel
theorem pn_9 : plainName "com/example/brelok/brelok/perf/Tally" = true := by first | (simp [plainName, overriddenIn]; done) | decide +kernel
theorem ef_rm9 (m : MethodId) (x0 : Addr) (x1 : Addr) (x2 : Int32) : entryFrame m #[(.ref x0), (.ref x1), (.int x2)] 3 = mkF m 0 #[.val (.ref x0), .val (.ref x1), .val (.int x2)] [] := by first | (simp [entryFrame, mkF, argsToLocals, Value.category]; done) | rfl
def Q_rm9 (Z : State) (a : Addr) (sa : Addr) (z : Int32) (d0 : Addr) (h0 : Heap) (n0 : Nat) (rv : Option Value) (h : Heap) (L : List Loc) : Prop := ∃ lc : Addr, rv = none ∧ Fr n0 L ∧ h0.size ≤ lc ∧ n0 ≤ lc ∧ a ≠ lc ∧ Keep h0 h [a] ∧ Exa Z h a "com/example/brelok/brelok/perf/Tally" ∧ Fld Z h a "com/example/brelok/brelok/perf/Tally" "contended" "Ljava/util/List;" (.ref lc) ∧ Fld Z h a "com/example/brelok/brelok/perf/Tally" "excludes" "Z" (.int (nar .boolean z)) ∧ Fld Z h a "com/example/brelok/brelok/perf/Tally" "waiting" "D" (.double (0 : UInt64)) ∧ Fld Z h a "com/example/brelok/brelok/perf/Tally" "overlaps" "J" (.long (0 : Int64)) ∧ Fld Z h a "com/example/brelok/brelok/perf/Tally" "lostUpdates" "J" (.long (0 : Int64)) ∧ Exa Z h lc "java/util/ArrayList" ∧ Fld Z h lc "java/util/AbstractList" "modCount" "I" (.int (0 : Int32)) ∧ Fld Z h lc "java/util/ArrayList" "elementData" "[Ljava/lang/Object;" (.ref d0) ∧ Fld Z h lc "java/util/ArrayList" "size" "I" (.int (0 : Int32))
set_option maxRecDepth 65536 in
set_option maxHeartbeats 40000000 in
theorem rm9 (l : Launch) (Z : State) (a0 : Array Value) (hw : ∀ d ∈ tables_1, d.before a0 Z = true) (ws : List Jvm.Cond) (a : Addr) (sa : Addr) (z : Int32) (d0 : Addr) (h0 : Heap) (n0 : Nat) (Z0 : n0 ≤ h0.size) (E_a : Exa Z h0 a "com/example/brelok/brelok/perf/Tally") (F_solo : Fld Z h0 a "com/example/brelok/brelok/perf/Tally" "solo" "Ljava/util/List;" .null) (F_contended : Fld Z h0 a "com/example/brelok/brelok/perf/Tally" "contended" "Ljava/util/List;" .null) (F_name : Fld Z h0 a "com/example/brelok/brelok/perf/Tally" "name" "Ljava/lang/String;" .null) (F_excludes : Fld Z h0 a "com/example/brelok/brelok/perf/Tally" "excludes" "Z" (.int (0 : Int32))) (F_waiting : Fld Z h0 a "com/example/brelok/brelok/perf/Tally" "waiting" "D" (.double (0 : UInt64))) (F_overlaps : Fld Z h0 a "com/example/brelok/brelok/perf/Tally" "overlaps" "J" (.long (0 : Int64))) (F_lostUpdates : Fld Z h0 a "com/example/brelok/brelok/perf/Tally" "lostUpdates" "J" (.long (0 : Int64))) (g_a : n0 ≤ a) (O : Old Z n0 h0) (S0 : Sta Z Z.heap "java/util/ArrayList" "DEFAULTCAPACITY_EMPTY_ELEMENTDATA" "[Ljava/lang/Object;" (.ref d0)) :
    MetFree l (⟨"com/example/brelok/brelok/perf/Tally", "<init>", "(Ljava/lang/String;Z)V"⟩ : MethodName) (head1 (Jvm.Cond.code (⟨"com/example/brelok/brelok/perf/Tally", "<init>", "(Ljava/lang/String;Z)V"⟩ : MethodName) prog_34_method_1_code 3 none :: ws) ({ frames := 4, cells := 2, slots := 6, locals := 50 } : Room)) (fun av U => av = #[(.ref a), (.ref sa), (.int z)] ∧ Z.Warmed39 U.vm ∧ U.heap = h0) (fun _ _ _ _ _ => True) (fun _ U o U' => ∃ rv L, o = .returned rv ∧ Q_rm9 Z a sa z d0 h0 n0 rv U'.heap L ∧ FrameEnd U o U' L ({ frames := 4, cells := 2, slots := 6, locals := 50 } : Room).cells ({ frames := 4, cells := 2, slots := 6, locals := 50 } : Room).slots) := by
  refine MetFree.of_bodySF (plainFor_of_name pn_9) hisR ?_
  intro p e s m args below meth c s₁ Bd hml0 hP hK
  obtain ⟨rfl, hZ, hh⟩ := hP
  have hx := Bd.exec
  have hby := Bd.bytes
  have hml : c.maxLocals = 3 := hml0
  have hown : s.vm.findClass "com/example/brelok/brelok/perf/Tally" = some m.cls := findClass_of_methodNamed Bd.named
  have hnm := (name_of_methodNamed Bd.named Bd.method).1
  have X0 : Stand p l e ({ frames := 4, cells := 2, slots := 6, locals := 50 } : Room) s m #[(.ref a), (.ref sa), (.int z)] below meth c s₁ [] 0 0 := Stand.of_body Bd
  have e0 : s₁.heap = h0 := by rw [← hh, Bd.state]; rfl
  have N0 := Fr.nil n0
  have pre0 : ∀ t, Steps p.tables e below (s₁.setTop (mkF m 0 #[.val (.ref a), .val (.ref sa), .val (.int z)] [])) t → Steps p.tables e below (s₁.setTop (entryFrame m #[(.ref a), (.ref sa), (.int z)] 3)) t := fun t k => castTop (ef_rm9 m a sa z) k
  have sg1 : ∀ target, Steps p.tables e below (s₁.setTop (mkF m 1 #[.val (.ref a), .val (.ref sa), .val (.int z)] [(.ref a)])) target → Steps p.tables e below (s₁.setTop (mkF m 0 #[.val (.ref a), .val (.ref sa), .val (.int z)] [])) target := by
    intro target kt
    show Steps p.tables e below (s₁.setTop (mkF m 0 #[.val (.ref a), .val (.ref sa), .val (.int z)] [])) _
    refine XS.aloadN X0.here hx rfl (hb hby d9_0) rfl rfl ?_
    exact kt
  obtain ⟨T2, X2, e2, st2⟩ := initO X0 hx hZ hown (hw _ (List.mem_of_getElem? (i := 56) rfl)) (hw _ (List.mem_of_getElem? (i := 15) rfl)) (hw _ (List.mem_of_getElem? (i := 16) rfl)) e0 (g := (mkF m 1 #[.val (.ref a), .val (.ref sa), .val (.int z)] [(.ref a)])) rfl (by rw [hml]; rfl) rfl (hb hby d9_1) (by decide) (W := 0) (by show 2 * 0 + _ ≤ _; exact Nat.le_of_eq rfl) (by decide)
  have sg3 : ∀ target, Steps p.tables e below (T2.setTop (mkF m 5 #[.val (.ref a), .val (.ref sa), .val (.int z)] [(.ref a)])) target → Steps p.tables e below (T2.setTop (mkF m 4 #[.val (.ref a), .val (.ref sa), .val (.int z)] [])) target := by
    intro target kt
    show Steps p.tables e below (T2.setTop (mkF m 4 #[.val (.ref a), .val (.ref sa), .val (.int z)] [])) _
    refine XS.aloadN X2.here hx rfl (hb hby d9_4) rfl rfl ?_
    exact kt
  obtain ⟨T4, h4, X4, e4, E4, A4, D4, -, st4⟩ := newO X2 hx hZ hown (hw _ (List.mem_of_getElem? (i := 57) rfl)) (hw _ (List.mem_of_getElem? (i := 58) rfl)) (hw _ (List.mem_of_getElem? (i := 59) rfl)) e2 (g := (mkF m 5 #[.val (.ref a), .val (.ref sa), .val (.int z)] [(.ref a)])) rfl (hb hby d9_5) (by decide) (by decide)
  obtain ⟨b4, g4⟩ : ∃ z, z = h0.size := ⟨_, rfl⟩
  rw [← g4] at A4 D4 st4
  have g_b4 : n0 ≤ b4 := Nat.le_trans Z0 (Nat.le_of_eq g4.symm)
  have sz_b4 : h0.size ≤ b4 := Nat.le_trans (Keep.refl h0 [a]).1 (Nat.le_of_eq g4.symm)
  have ne_a_b4 : a ≠ b4 := Nat.ne_of_lt (Nat.lt_of_lt_of_le E_a.lt (Nat.le_of_eq g4.symm))
  have Zs4 : n0 ≤ h4.size := Nat.le_trans Z0 E4.1
  have K4 : Keep h0 h4 [a] := (Keep.refl h0 [a]).ext E4
  have f5 : Exa Z h4 a "com/example/brelok/brelok/perf/Tally" := E_a.ext E4
  have f6 : Fld Z h4 a "com/example/brelok/brelok/perf/Tally" "solo" "Ljava/util/List;" .null := F_solo.ext E4
  have f7 : Fld Z h4 a "com/example/brelok/brelok/perf/Tally" "contended" "Ljava/util/List;" .null := F_contended.ext E4
  have f8 : Fld Z h4 a "com/example/brelok/brelok/perf/Tally" "name" "Ljava/lang/String;" .null := F_name.ext E4
  have f9 : Fld Z h4 a "com/example/brelok/brelok/perf/Tally" "excludes" "Z" (.int (0 : Int32)) := F_excludes.ext E4
  have f10 : Fld Z h4 a "com/example/brelok/brelok/perf/Tally" "waiting" "D" (.double (0 : UInt64)) := F_waiting.ext E4
  have f11 : Fld Z h4 a "com/example/brelok/brelok/perf/Tally" "overlaps" "J" (.long (0 : Int64)) := F_overlaps.ext E4
  have f12 : Fld Z h4 a "com/example/brelok/brelok/perf/Tally" "lostUpdates" "J" (.long (0 : Int64)) := F_lostUpdates.ext E4
  have f13 : Old Z n0 h4 := O.ext E4
  have f14 : Exa Z h4 b4 "java/util/ArrayList" := A4
  have f15 : Fld Z h4 b4 "java/util/AbstractList" "modCount" "I" (.int (0 : Int32)) := D4 (Or.inl (hw _ (List.mem_of_getElem? (i := 77) rfl))) (ty := .int) (by decide)
  have f16 : Fld Z h4 b4 "java/util/ArrayList" "elementData" "[Ljava/lang/Object;" .null := D4 (Or.inl (hw _ (List.mem_of_getElem? (i := 80) rfl))) (ty := (.array (.object "java/lang/Object"))) (by decide)
  have f17 : Fld Z h4 b4 "java/util/ArrayList" "size" "I" (.int (0 : Int32)) := D4 (Or.inl (hw _ (List.mem_of_getElem? (i := 135) rfl))) (ty := .int) (by decide)
  have sg18 : ∀ target, Steps p.tables e below (T4.setTop (mkF m 9 #[.val (.ref a), .val (.ref sa), .val (.int z)] [(.ref b4), (.ref b4), (.ref a)])) target → Steps p.tables e below (T4.setTop (mkF m 8 #[.val (.ref a), .val (.ref sa), .val (.int z)] [(.ref b4), (.ref a)])) target := by
    intro target kt
    show Steps p.tables e below (T4.setTop (mkF m 8 #[.val (.ref a), .val (.ref sa), .val (.int z)] [(.ref b4), (.ref a)])) _
    refine XS.dup X4.here hx rfl (hb hby d9_8) rfl rfl ?_
    exact kt
  obtain ⟨_, _, ⟨T19, L19, k19, n19⟩, -, X19, ⟨Lc19, hQ19, l19, y19, z19⟩, st19⟩ := X4.specialBack hx (y := (⟨"java/util/ArrayList", "<init>", "()V"⟩ : MethodName)) rfl hown (mvT hZ (hw _ (List.mem_of_getElem? (i := 60) rfl))) (mvT hZ (hw _ (List.mem_of_getElem? (i := 61) rfl))) (mvT hZ (hw _ (List.mem_of_getElem? (i := 62) rfl))) (by decide) (backOf (W := 2) (rm10 l Z a0 hw [] b4 d0 h4 n0 Zs4 f14 f15 f16 f17 g_b4 f13 S0) hZ (hw _ (List.mem_of_getElem? (i := 62) rfl)) (hw _ (List.mem_of_getElem? (i := 59) rfl)) (by decide) (by decide)) (g := (mkF m 9 #[.val (.ref a), .val (.ref sa), .val (.int z)] [(.ref b4), (.ref b4), (.ref a)])) rfl (by rw [hml]; rfl) (Steps.refl _) (a := b4) (argsL := []) (rest := [(.ref b4), (.ref a)]) (lenOf pd_3 rfl) rfl (by show 2 * 0 + _ ≤ _; exact Nat.le_of_eq rfl) (hb hby d9_9) (fun _ _ => ⟨rfl, e4, (by decide : 1 + 0 ≤ _), (by decide : 3 + 0 ≤ _)⟩)
  dsimp only [Pt.U, Pt.locs, Pt.cells, Pt.slots] at X19 l19 y19 z19 st19 hQ19
  subst l19 y19 z19
  obtain ⟨rfl, N19q, c19_0, c19_1, c19_2, c19_3, c19_4⟩ := hQ19
  have N19 := Fr.app N0 N19q
  have Zs19 : n0 ≤ T19.heap.size := Nat.le_trans Zs4 c19_0.1
  have K19 : Keep h0 T19.heap [a] := K4.trans c19_0 (allS (Or.inr sz_b4) all0)
  have f20 : Exa Z T19.heap a "com/example/brelok/brelok/perf/Tally" := f5.keep c19_0
  have f21 : Fld Z T19.heap a "com/example/brelok/brelok/perf/Tally" "solo" "Ljava/util/List;" .null := f6.keep c19_0 (ninS ne_a_b4 nin0)
  have f22 : Fld Z T19.heap a "com/example/brelok/brelok/perf/Tally" "contended" "Ljava/util/List;" .null := f7.keep c19_0 (ninS ne_a_b4 nin0)
  have f23 : Fld Z T19.heap a "com/example/brelok/brelok/perf/Tally" "name" "Ljava/lang/String;" .null := f8.keep c19_0 (ninS ne_a_b4 nin0)
  have f24 : Fld Z T19.heap a "com/example/brelok/brelok/perf/Tally" "excludes" "Z" (.int (0 : Int32)) := f9.keep c19_0 (ninS ne_a_b4 nin0)
  have f25 : Fld Z T19.heap a "com/example/brelok/brelok/perf/Tally" "waiting" "D" (.double (0 : UInt64)) := f10.keep c19_0 (ninS ne_a_b4 nin0)
  have f26 : Fld Z T19.heap a "com/example/brelok/brelok/perf/Tally" "overlaps" "J" (.long (0 : Int64)) := f11.keep c19_0 (ninS ne_a_b4 nin0)
  have f27 : Fld Z T19.heap a "com/example/brelok/brelok/perf/Tally" "lostUpdates" "J" (.long (0 : Int64)) := f12.keep c19_0 (ninS ne_a_b4 nin0)
  have f28 : Old Z n0 T19.heap := f13.keep c19_0 (allS g_b4 all0)
  have f29 : Exa Z T19.heap b4 "java/util/ArrayList" := c19_1
  have f30 : Fld Z T19.heap b4 "java/util/AbstractList" "modCount" "I" (.int (0 : Int32)) := c19_2
  have f31 : Fld Z T19.heap b4 "java/util/ArrayList" "elementData" "[Ljava/lang/Object;" (.ref d0) := c19_3
  have f32 : Fld Z T19.heap b4 "java/util/ArrayList" "size" "I" (.int (0 : Int32)) := c19_4
  obtain ⟨T33, h33, X33, e33, W33, st33⟩ := putF X19 hx hZ hown (host := "") (Or.inl (hw _ (List.mem_of_getElem? (i := 81) rfl))) Via.refl rfl f21 f20 (Or.inr ⟨(hw _ (List.mem_of_getElem? (i := 82) rfl)), rfl, hnm⟩) (hw _ (List.mem_of_getElem? (i := 24) rfl)) (ty := (.object "java/util/List")) (by decide) rfl rfl (g := (mkF m 12 #[.val (.ref a), .val (.ref sa), .val (.int z)] [(.ref b4), (.ref a)])) rfl rfl (hb hby d9_12)
  have N33 := Fr.snoc X33 N19 g_a
  have Zs33 : n0 ≤ h33.size := by rw [W33.size]; exact Zs19
  have K33 : Keep h0 h33 [a] := K19.wr W33 (Or.inl (List.mem_of_getElem? (i := 0) rfl))
  have f34 : Exa Z h33 a "com/example/brelok/brelok/perf/Tally" := f20.wr W33
  have f35 : Fld Z h33 a "com/example/brelok/brelok/perf/Tally" "contended" "Ljava/util/List;" .null := f22.other W33 (Or.inr (slot_ne (Or.inr (hw _ (List.mem_of_getElem? (i := 84) rfl))) (Or.inr (hw _ (List.mem_of_getElem? (i := 82) rfl))) (by decide) (t := (.object "java/util/List")) (t' := (.object "java/util/List")) (by decide) (by decide)))
  have f36 : Fld Z h33 a "com/example/brelok/brelok/perf/Tally" "name" "Ljava/lang/String;" .null := f23.other W33 (Or.inr (slot_ne (Or.inr (hw _ (List.mem_of_getElem? (i := 86) rfl))) (Or.inr (hw _ (List.mem_of_getElem? (i := 82) rfl))) (by decide) (t := (.object "java/lang/String")) (t' := (.object "java/util/List")) (by decide) (by decide)))
  have f37 : Fld Z h33 a "com/example/brelok/brelok/perf/Tally" "excludes" "Z" (.int (0 : Int32)) := f24.other W33 (Or.inr (slot_ne (Or.inr (hw _ (List.mem_of_getElem? (i := 88) rfl))) (Or.inr (hw _ (List.mem_of_getElem? (i := 82) rfl))) (by decide) (t := .boolean) (t' := (.object "java/util/List")) (by decide) (by decide)))
  have f38 : Fld Z h33 a "com/example/brelok/brelok/perf/Tally" "waiting" "D" (.double (0 : UInt64)) := f25.other W33 (Or.inr (slot_ne (Or.inl (hw _ (List.mem_of_getElem? (i := 182) rfl))) (Or.inr (hw _ (List.mem_of_getElem? (i := 82) rfl))) (by decide) (t := .double) (t' := (.object "java/util/List")) (by decide) (by decide)))
  have f39 : Fld Z h33 a "com/example/brelok/brelok/perf/Tally" "overlaps" "J" (.long (0 : Int64)) := f26.other W33 (Or.inr (slot_ne (Or.inl (hw _ (List.mem_of_getElem? (i := 163) rfl))) (Or.inr (hw _ (List.mem_of_getElem? (i := 82) rfl))) (by decide) (t := .long) (t' := (.object "java/util/List")) (by decide) (by decide)))
  have f40 : Fld Z h33 a "com/example/brelok/brelok/perf/Tally" "lostUpdates" "J" (.long (0 : Int64)) := f27.other W33 (Or.inr (slot_ne (Or.inl (hw _ (List.mem_of_getElem? (i := 170) rfl))) (Or.inr (hw _ (List.mem_of_getElem? (i := 82) rfl))) (by decide) (t := .long) (t' := (.object "java/util/List")) (by decide) (by decide)))
  have f41 : Old Z n0 h33 := f28.wr W33 g_a
  have f42 : Exa Z h33 b4 "java/util/ArrayList" := f29.wr W33
  have f43 : Fld Z h33 b4 "java/util/AbstractList" "modCount" "I" (.int (0 : Int32)) := f30.other W33 (Or.inl (Ne.symm ne_a_b4))
  have f44 : Fld Z h33 b4 "java/util/ArrayList" "elementData" "[Ljava/lang/Object;" (.ref d0) := f31.other W33 (Or.inl (Ne.symm ne_a_b4))
  have f45 : Fld Z h33 b4 "java/util/ArrayList" "size" "I" (.int (0 : Int32)) := f32.other W33 (Or.inl (Ne.symm ne_a_b4))
  have f46 : Fld Z h33 a "com/example/brelok/brelok/perf/Tally" "solo" "Ljava/util/List;" (.ref b4) := f21.same W33
  have sg47 : ∀ target, Steps p.tables e below (T33.setTop (mkF m 16 #[.val (.ref a), .val (.ref sa), .val (.int z)] [(.ref a)])) target → Steps p.tables e below (T33.setTop (mkF m 15 #[.val (.ref a), .val (.ref sa), .val (.int z)] [])) target := by
    intro target kt
    show Steps p.tables e below (T33.setTop (mkF m 15 #[.val (.ref a), .val (.ref sa), .val (.int z)] [])) _
    refine XS.aloadN X33.here hx rfl (hb hby d9_15) rfl rfl ?_
    exact kt
  obtain ⟨T48, h48, X48, e48, E48, A48, D48, -, st48⟩ := newO X33 hx hZ hown (hw _ (List.mem_of_getElem? (i := 57) rfl)) (hw _ (List.mem_of_getElem? (i := 58) rfl)) (hw _ (List.mem_of_getElem? (i := 59) rfl)) e33 (g := (mkF m 16 #[.val (.ref a), .val (.ref sa), .val (.int z)] [(.ref a)])) rfl (hb hby d9_16) (by decide) (by decide)
  obtain ⟨b48, g48⟩ : ∃ z, z = h33.size := ⟨_, rfl⟩
  rw [← g48] at A48 D48 st48
  have g_b48 : n0 ≤ b48 := Nat.le_trans Zs33 (Nat.le_of_eq g48.symm)
  have sz_b48 : h0.size ≤ b48 := Nat.le_trans K33.1 (Nat.le_of_eq g48.symm)
  have ne_a_b48 : a ≠ b48 := Nat.ne_of_lt (Nat.lt_of_lt_of_le f34.lt (Nat.le_of_eq g48.symm))
  have ne_b4_b48 : b4 ≠ b48 := Nat.ne_of_lt (Nat.lt_of_lt_of_le f42.lt (Nat.le_of_eq g48.symm))
  have Zs48 : n0 ≤ h48.size := Nat.le_trans Zs33 E48.1
  have K48 : Keep h0 h48 [a] := K33.ext E48
  have f49 : Exa Z h48 a "com/example/brelok/brelok/perf/Tally" := f34.ext E48
  have f50 : Fld Z h48 a "com/example/brelok/brelok/perf/Tally" "solo" "Ljava/util/List;" (.ref b4) := f46.ext E48
  have f51 : Fld Z h48 a "com/example/brelok/brelok/perf/Tally" "contended" "Ljava/util/List;" .null := f35.ext E48
  have f52 : Fld Z h48 a "com/example/brelok/brelok/perf/Tally" "name" "Ljava/lang/String;" .null := f36.ext E48
  have f53 : Fld Z h48 a "com/example/brelok/brelok/perf/Tally" "excludes" "Z" (.int (0 : Int32)) := f37.ext E48
  have f54 : Fld Z h48 a "com/example/brelok/brelok/perf/Tally" "waiting" "D" (.double (0 : UInt64)) := f38.ext E48
  have f55 : Fld Z h48 a "com/example/brelok/brelok/perf/Tally" "overlaps" "J" (.long (0 : Int64)) := f39.ext E48
  have f56 : Fld Z h48 a "com/example/brelok/brelok/perf/Tally" "lostUpdates" "J" (.long (0 : Int64)) := f40.ext E48
  have f57 : Old Z n0 h48 := f41.ext E48
  have f58 : Exa Z h48 b4 "java/util/ArrayList" := f42.ext E48
  have f59 : Fld Z h48 b4 "java/util/AbstractList" "modCount" "I" (.int (0 : Int32)) := f43.ext E48
  have f60 : Fld Z h48 b4 "java/util/ArrayList" "elementData" "[Ljava/lang/Object;" (.ref d0) := f44.ext E48
  have f61 : Fld Z h48 b4 "java/util/ArrayList" "size" "I" (.int (0 : Int32)) := f45.ext E48
  have f62 : Exa Z h48 b48 "java/util/ArrayList" := A48
  have f63 : Fld Z h48 b48 "java/util/AbstractList" "modCount" "I" (.int (0 : Int32)) := D48 (Or.inl (hw _ (List.mem_of_getElem? (i := 77) rfl))) (ty := .int) (by decide)
  have f64 : Fld Z h48 b48 "java/util/ArrayList" "elementData" "[Ljava/lang/Object;" .null := D48 (Or.inl (hw _ (List.mem_of_getElem? (i := 80) rfl))) (ty := (.array (.object "java/lang/Object"))) (by decide)
  have f65 : Fld Z h48 b48 "java/util/ArrayList" "size" "I" (.int (0 : Int32)) := D48 (Or.inl (hw _ (List.mem_of_getElem? (i := 135) rfl))) (ty := .int) (by decide)
  have sg66 : ∀ target, Steps p.tables e below (T48.setTop (mkF m 20 #[.val (.ref a), .val (.ref sa), .val (.int z)] [(.ref b48), (.ref b48), (.ref a)])) target → Steps p.tables e below (T48.setTop (mkF m 19 #[.val (.ref a), .val (.ref sa), .val (.int z)] [(.ref b48), (.ref a)])) target := by
    intro target kt
    show Steps p.tables e below (T48.setTop (mkF m 19 #[.val (.ref a), .val (.ref sa), .val (.int z)] [(.ref b48), (.ref a)])) _
    refine XS.dup X48.here hx rfl (hb hby d9_19) rfl rfl ?_
    exact kt
  obtain ⟨_, _, ⟨T67, L67, k67, n67⟩, -, X67, ⟨Lc67, hQ67, l67, y67, z67⟩, st67⟩ := X48.specialBack hx (y := (⟨"java/util/ArrayList", "<init>", "()V"⟩ : MethodName)) rfl hown (mvT hZ (hw _ (List.mem_of_getElem? (i := 60) rfl))) (mvT hZ (hw _ (List.mem_of_getElem? (i := 61) rfl))) (mvT hZ (hw _ (List.mem_of_getElem? (i := 62) rfl))) (by decide) (backOf (W := 2) (rm10 l Z a0 hw [] b48 d0 h48 n0 Zs48 f62 f63 f64 f65 g_b48 f57 S0) hZ (hw _ (List.mem_of_getElem? (i := 62) rfl)) (hw _ (List.mem_of_getElem? (i := 59) rfl)) (by decide) (by decide)) (g := (mkF m 20 #[.val (.ref a), .val (.ref sa), .val (.int z)] [(.ref b48), (.ref b48), (.ref a)])) rfl (by rw [hml]; rfl) (Steps.refl _) (a := b48) (argsL := []) (rest := [(.ref b48), (.ref a)]) (lenOf pd_3 rfl) rfl (by show 2 * 0 + _ ≤ _; exact Nat.le_of_eq rfl) (hb hby d9_20) (fun _ _ => ⟨rfl, e48, (by decide : 2 + 0 ≤ _), (by decide : 6 + 0 ≤ _)⟩)
  dsimp only [Pt.U, Pt.locs, Pt.cells, Pt.slots] at X67 l67 y67 z67 st67 hQ67
  subst l67 y67 z67
  obtain ⟨rfl, N67q, c67_0, c67_1, c67_2, c67_3, c67_4⟩ := hQ67
  have N67 := Fr.app N33 N67q
  have Zs67 : n0 ≤ T67.heap.size := Nat.le_trans Zs48 c67_0.1
  have K67 : Keep h0 T67.heap [a] := K48.trans c67_0 (allS (Or.inr sz_b48) all0)
  have f68 : Exa Z T67.heap a "com/example/brelok/brelok/perf/Tally" := f49.keep c67_0
  have f69 : Fld Z T67.heap a "com/example/brelok/brelok/perf/Tally" "solo" "Ljava/util/List;" (.ref b4) := f50.keep c67_0 (ninS ne_a_b48 nin0)
  have f70 : Fld Z T67.heap a "com/example/brelok/brelok/perf/Tally" "contended" "Ljava/util/List;" .null := f51.keep c67_0 (ninS ne_a_b48 nin0)
  have f71 : Fld Z T67.heap a "com/example/brelok/brelok/perf/Tally" "name" "Ljava/lang/String;" .null := f52.keep c67_0 (ninS ne_a_b48 nin0)
  have f72 : Fld Z T67.heap a "com/example/brelok/brelok/perf/Tally" "excludes" "Z" (.int (0 : Int32)) := f53.keep c67_0 (ninS ne_a_b48 nin0)
  have f73 : Fld Z T67.heap a "com/example/brelok/brelok/perf/Tally" "waiting" "D" (.double (0 : UInt64)) := f54.keep c67_0 (ninS ne_a_b48 nin0)
  have f74 : Fld Z T67.heap a "com/example/brelok/brelok/perf/Tally" "overlaps" "J" (.long (0 : Int64)) := f55.keep c67_0 (ninS ne_a_b48 nin0)
  have f75 : Fld Z T67.heap a "com/example/brelok/brelok/perf/Tally" "lostUpdates" "J" (.long (0 : Int64)) := f56.keep c67_0 (ninS ne_a_b48 nin0)
  have f76 : Old Z n0 T67.heap := f57.keep c67_0 (allS g_b48 all0)
  have f77 : Exa Z T67.heap b4 "java/util/ArrayList" := f58.keep c67_0
  have f78 : Fld Z T67.heap b4 "java/util/AbstractList" "modCount" "I" (.int (0 : Int32)) := f59.keep c67_0 (ninS ne_b4_b48 nin0)
  have f79 : Fld Z T67.heap b4 "java/util/ArrayList" "elementData" "[Ljava/lang/Object;" (.ref d0) := f60.keep c67_0 (ninS ne_b4_b48 nin0)
  have f80 : Fld Z T67.heap b4 "java/util/ArrayList" "size" "I" (.int (0 : Int32)) := f61.keep c67_0 (ninS ne_b4_b48 nin0)
  have f81 : Exa Z T67.heap b48 "java/util/ArrayList" := c67_1
  have f82 : Fld Z T67.heap b48 "java/util/AbstractList" "modCount" "I" (.int (0 : Int32)) := c67_2
  have f83 : Fld Z T67.heap b48 "java/util/ArrayList" "elementData" "[Ljava/lang/Object;" (.ref d0) := c67_3
  have f84 : Fld Z T67.heap b48 "java/util/ArrayList" "size" "I" (.int (0 : Int32)) := c67_4
  obtain ⟨T85, h85, X85, e85, W85, st85⟩ := putF X67 hx hZ hown (host := "") (Or.inl (hw _ (List.mem_of_getElem? (i := 83) rfl))) Via.refl rfl f70 f68 (Or.inr ⟨(hw _ (List.mem_of_getElem? (i := 84) rfl)), rfl, hnm⟩) (hw _ (List.mem_of_getElem? (i := 24) rfl)) (ty := (.object "java/util/List")) (by decide) rfl rfl (g := (mkF m 23 #[.val (.ref a), .val (.ref sa), .val (.int z)] [(.ref b48), (.ref a)])) rfl rfl (hb hby d9_23)
  have N85 := Fr.snoc X85 N67 g_a
  have Zs85 : n0 ≤ h85.size := by rw [W85.size]; exact Zs67
  have K85 : Keep h0 h85 [a] := K67.wr W85 (Or.inl (List.mem_of_getElem? (i := 0) rfl))
  have f86 : Exa Z h85 a "com/example/brelok/brelok/perf/Tally" := f68.wr W85
  have f87 : Fld Z h85 a "com/example/brelok/brelok/perf/Tally" "solo" "Ljava/util/List;" (.ref b4) := f69.other W85 (Or.inr (slot_ne (Or.inr (hw _ (List.mem_of_getElem? (i := 82) rfl))) (Or.inr (hw _ (List.mem_of_getElem? (i := 84) rfl))) (by decide) (t := (.object "java/util/List")) (t' := (.object "java/util/List")) (by decide) (by decide)))
  have f88 : Fld Z h85 a "com/example/brelok/brelok/perf/Tally" "name" "Ljava/lang/String;" .null := f71.other W85 (Or.inr (slot_ne (Or.inr (hw _ (List.mem_of_getElem? (i := 86) rfl))) (Or.inr (hw _ (List.mem_of_getElem? (i := 84) rfl))) (by decide) (t := (.object "java/lang/String")) (t' := (.object "java/util/List")) (by decide) (by decide)))
  have f89 : Fld Z h85 a "com/example/brelok/brelok/perf/Tally" "excludes" "Z" (.int (0 : Int32)) := f72.other W85 (Or.inr (slot_ne (Or.inr (hw _ (List.mem_of_getElem? (i := 88) rfl))) (Or.inr (hw _ (List.mem_of_getElem? (i := 84) rfl))) (by decide) (t := .boolean) (t' := (.object "java/util/List")) (by decide) (by decide)))
  have f90 : Fld Z h85 a "com/example/brelok/brelok/perf/Tally" "waiting" "D" (.double (0 : UInt64)) := f73.other W85 (Or.inr (slot_ne (Or.inl (hw _ (List.mem_of_getElem? (i := 182) rfl))) (Or.inr (hw _ (List.mem_of_getElem? (i := 84) rfl))) (by decide) (t := .double) (t' := (.object "java/util/List")) (by decide) (by decide)))
  have f91 : Fld Z h85 a "com/example/brelok/brelok/perf/Tally" "overlaps" "J" (.long (0 : Int64)) := f74.other W85 (Or.inr (slot_ne (Or.inl (hw _ (List.mem_of_getElem? (i := 163) rfl))) (Or.inr (hw _ (List.mem_of_getElem? (i := 84) rfl))) (by decide) (t := .long) (t' := (.object "java/util/List")) (by decide) (by decide)))
  have f92 : Fld Z h85 a "com/example/brelok/brelok/perf/Tally" "lostUpdates" "J" (.long (0 : Int64)) := f75.other W85 (Or.inr (slot_ne (Or.inl (hw _ (List.mem_of_getElem? (i := 170) rfl))) (Or.inr (hw _ (List.mem_of_getElem? (i := 84) rfl))) (by decide) (t := .long) (t' := (.object "java/util/List")) (by decide) (by decide)))
  have f93 : Old Z n0 h85 := f76.wr W85 g_a
  have f94 : Exa Z h85 b4 "java/util/ArrayList" := f77.wr W85
  have f95 : Fld Z h85 b4 "java/util/AbstractList" "modCount" "I" (.int (0 : Int32)) := f78.other W85 (Or.inl (Ne.symm ne_a_b4))
  have f96 : Fld Z h85 b4 "java/util/ArrayList" "elementData" "[Ljava/lang/Object;" (.ref d0) := f79.other W85 (Or.inl (Ne.symm ne_a_b4))
  have f97 : Fld Z h85 b4 "java/util/ArrayList" "size" "I" (.int (0 : Int32)) := f80.other W85 (Or.inl (Ne.symm ne_a_b4))
  have f98 : Exa Z h85 b48 "java/util/ArrayList" := f81.wr W85
  have f99 : Fld Z h85 b48 "java/util/AbstractList" "modCount" "I" (.int (0 : Int32)) := f82.other W85 (Or.inl (Ne.symm ne_a_b48))
  have f100 : Fld Z h85 b48 "java/util/ArrayList" "elementData" "[Ljava/lang/Object;" (.ref d0) := f83.other W85 (Or.inl (Ne.symm ne_a_b48))
  have f101 : Fld Z h85 b48 "java/util/ArrayList" "size" "I" (.int (0 : Int32)) := f84.other W85 (Or.inl (Ne.symm ne_a_b48))
  have f102 : Fld Z h85 a "com/example/brelok/brelok/perf/Tally" "contended" "Ljava/util/List;" (.ref b48) := f70.same W85
  have sg103 : ∀ target, Steps p.tables e below (T85.setTop (mkF m 28 #[.val (.ref a), .val (.ref sa), .val (.int z)] [(.ref sa), (.ref a)])) target → Steps p.tables e below (T85.setTop (mkF m 26 #[.val (.ref a), .val (.ref sa), .val (.int z)] [])) target := by
    intro target kt
    show Steps p.tables e below (T85.setTop (mkF m 26 #[.val (.ref a), .val (.ref sa), .val (.int z)] [])) _
    refine XS.aloadN X85.here hx rfl (hb hby d9_26) rfl rfl ?_
    show Steps p.tables e below (T85.setTop (mkF m 27 #[.val (.ref a), .val (.ref sa), .val (.int z)] [(.ref a)])) _
    refine XS.aloadN X85.here hx rfl (hb hby d9_27) rfl rfl ?_
    exact kt
  obtain ⟨T104, h104, X104, e104, W104, st104⟩ := putF X85 hx hZ hown (host := "") (Or.inl (hw _ (List.mem_of_getElem? (i := 85) rfl))) Via.refl e85 f88 f86 (Or.inr ⟨(hw _ (List.mem_of_getElem? (i := 86) rfl)), rfl, hnm⟩) (hw _ (List.mem_of_getElem? (i := 24) rfl)) (ty := (.object "java/lang/String")) (by decide) rfl rfl (g := (mkF m 28 #[.val (.ref a), .val (.ref sa), .val (.int z)] [(.ref sa), (.ref a)])) rfl rfl (hb hby d9_28)
  have N104 := Fr.snoc X104 N85 g_a
  have Zs104 : n0 ≤ h104.size := by rw [W104.size]; exact Zs85
  have K104 : Keep h0 h104 [a] := K85.wr W104 (Or.inl (List.mem_of_getElem? (i := 0) rfl))
  have f105 : Exa Z h104 a "com/example/brelok/brelok/perf/Tally" := f86.wr W104
  have f106 : Fld Z h104 a "com/example/brelok/brelok/perf/Tally" "solo" "Ljava/util/List;" (.ref b4) := f87.other W104 (Or.inr (slot_ne (Or.inr (hw _ (List.mem_of_getElem? (i := 82) rfl))) (Or.inr (hw _ (List.mem_of_getElem? (i := 86) rfl))) (by decide) (t := (.object "java/util/List")) (t' := (.object "java/lang/String")) (by decide) (by decide)))
  have f107 : Fld Z h104 a "com/example/brelok/brelok/perf/Tally" "contended" "Ljava/util/List;" (.ref b48) := f102.other W104 (Or.inr (slot_ne (Or.inr (hw _ (List.mem_of_getElem? (i := 84) rfl))) (Or.inr (hw _ (List.mem_of_getElem? (i := 86) rfl))) (by decide) (t := (.object "java/util/List")) (t' := (.object "java/lang/String")) (by decide) (by decide)))
  have f108 : Fld Z h104 a "com/example/brelok/brelok/perf/Tally" "excludes" "Z" (.int (0 : Int32)) := f89.other W104 (Or.inr (slot_ne (Or.inr (hw _ (List.mem_of_getElem? (i := 88) rfl))) (Or.inr (hw _ (List.mem_of_getElem? (i := 86) rfl))) (by decide) (t := .boolean) (t' := (.object "java/lang/String")) (by decide) (by decide)))
  have f109 : Fld Z h104 a "com/example/brelok/brelok/perf/Tally" "waiting" "D" (.double (0 : UInt64)) := f90.other W104 (Or.inr (slot_ne (Or.inl (hw _ (List.mem_of_getElem? (i := 182) rfl))) (Or.inr (hw _ (List.mem_of_getElem? (i := 86) rfl))) (by decide) (t := .double) (t' := (.object "java/lang/String")) (by decide) (by decide)))
  have f110 : Fld Z h104 a "com/example/brelok/brelok/perf/Tally" "overlaps" "J" (.long (0 : Int64)) := f91.other W104 (Or.inr (slot_ne (Or.inl (hw _ (List.mem_of_getElem? (i := 163) rfl))) (Or.inr (hw _ (List.mem_of_getElem? (i := 86) rfl))) (by decide) (t := .long) (t' := (.object "java/lang/String")) (by decide) (by decide)))
  have f111 : Fld Z h104 a "com/example/brelok/brelok/perf/Tally" "lostUpdates" "J" (.long (0 : Int64)) := f92.other W104 (Or.inr (slot_ne (Or.inl (hw _ (List.mem_of_getElem? (i := 170) rfl))) (Or.inr (hw _ (List.mem_of_getElem? (i := 86) rfl))) (by decide) (t := .long) (t' := (.object "java/lang/String")) (by decide) (by decide)))
  have f112 : Old Z n0 h104 := f93.wr W104 g_a
  have f113 : Exa Z h104 b4 "java/util/ArrayList" := f94.wr W104
  have f114 : Fld Z h104 b4 "java/util/AbstractList" "modCount" "I" (.int (0 : Int32)) := f95.other W104 (Or.inl (Ne.symm ne_a_b4))
  have f115 : Fld Z h104 b4 "java/util/ArrayList" "elementData" "[Ljava/lang/Object;" (.ref d0) := f96.other W104 (Or.inl (Ne.symm ne_a_b4))
  have f116 : Fld Z h104 b4 "java/util/ArrayList" "size" "I" (.int (0 : Int32)) := f97.other W104 (Or.inl (Ne.symm ne_a_b4))
  have f117 : Exa Z h104 b48 "java/util/ArrayList" := f98.wr W104
  have f118 : Fld Z h104 b48 "java/util/AbstractList" "modCount" "I" (.int (0 : Int32)) := f99.other W104 (Or.inl (Ne.symm ne_a_b48))
  have f119 : Fld Z h104 b48 "java/util/ArrayList" "elementData" "[Ljava/lang/Object;" (.ref d0) := f100.other W104 (Or.inl (Ne.symm ne_a_b48))
  have f120 : Fld Z h104 b48 "java/util/ArrayList" "size" "I" (.int (0 : Int32)) := f101.other W104 (Or.inl (Ne.symm ne_a_b48))
  have f121 : Fld Z h104 a "com/example/brelok/brelok/perf/Tally" "name" "Ljava/lang/String;" (.ref sa) := f88.same W104
  have sg122 : ∀ target, Steps p.tables e below (T104.setTop (mkF m 33 #[.val (.ref a), .val (.ref sa), .val (.int z)] [(.int z), (.ref a)])) target → Steps p.tables e below (T104.setTop (mkF m 31 #[.val (.ref a), .val (.ref sa), .val (.int z)] [])) target := by
    intro target kt
    show Steps p.tables e below (T104.setTop (mkF m 31 #[.val (.ref a), .val (.ref sa), .val (.int z)] [])) _
    refine XS.aloadN X104.here hx rfl (hb hby d9_31) rfl rfl ?_
    show Steps p.tables e below (T104.setTop (mkF m 32 #[.val (.ref a), .val (.ref sa), .val (.int z)] [(.ref a)])) _
    refine XS.iloadN X104.here hx rfl (hb hby d9_32) rfl ?_
    exact kt
  obtain ⟨T123, h123, X123, e123, W123, st123⟩ := putFN X104 hx hZ hown (hw _ (List.mem_of_getElem? (i := 87) rfl)) Via.refl e104 f108 f105 (Or.inr ⟨(hw _ (List.mem_of_getElem? (i := 88) rfl)), rfl, hnm⟩) (hw _ (List.mem_of_getElem? (i := 24) rfl)) (ty := .boolean) (v := (.int z)) (v' := .int (nar .boolean z)) (by decide) rfl (fits_nar_bool _) (g := (mkF m 33 #[.val (.ref a), .val (.ref sa), .val (.int z)] [(.int z), (.ref a)])) rfl rfl (hb hby d9_33)
  have N123 := Fr.snoc X123 N104 g_a
  have Zs123 : n0 ≤ h123.size := by rw [W123.size]; exact Zs104
  have K123 : Keep h0 h123 [a] := K104.wr W123 (Or.inl (List.mem_of_getElem? (i := 0) rfl))
  have f124 : Exa Z h123 a "com/example/brelok/brelok/perf/Tally" := f105.wr W123
  have f125 : Fld Z h123 a "com/example/brelok/brelok/perf/Tally" "solo" "Ljava/util/List;" (.ref b4) := f106.other W123 (Or.inr (slot_ne (Or.inr (hw _ (List.mem_of_getElem? (i := 82) rfl))) (Or.inr (hw _ (List.mem_of_getElem? (i := 88) rfl))) (by decide) (t := (.object "java/util/List")) (t' := .boolean) (by decide) (by decide)))
  have f126 : Fld Z h123 a "com/example/brelok/brelok/perf/Tally" "contended" "Ljava/util/List;" (.ref b48) := f107.other W123 (Or.inr (slot_ne (Or.inr (hw _ (List.mem_of_getElem? (i := 84) rfl))) (Or.inr (hw _ (List.mem_of_getElem? (i := 88) rfl))) (by decide) (t := (.object "java/util/List")) (t' := .boolean) (by decide) (by decide)))
  have f127 : Fld Z h123 a "com/example/brelok/brelok/perf/Tally" "name" "Ljava/lang/String;" (.ref sa) := f121.other W123 (Or.inr (slot_ne (Or.inr (hw _ (List.mem_of_getElem? (i := 86) rfl))) (Or.inr (hw _ (List.mem_of_getElem? (i := 88) rfl))) (by decide) (t := (.object "java/lang/String")) (t' := .boolean) (by decide) (by decide)))
  have f128 : Fld Z h123 a "com/example/brelok/brelok/perf/Tally" "waiting" "D" (.double (0 : UInt64)) := f109.other W123 (Or.inr (slot_ne (Or.inl (hw _ (List.mem_of_getElem? (i := 182) rfl))) (Or.inr (hw _ (List.mem_of_getElem? (i := 88) rfl))) (by decide) (t := .double) (t' := .boolean) (by decide) (by decide)))
  have f129 : Fld Z h123 a "com/example/brelok/brelok/perf/Tally" "overlaps" "J" (.long (0 : Int64)) := f110.other W123 (Or.inr (slot_ne (Or.inl (hw _ (List.mem_of_getElem? (i := 163) rfl))) (Or.inr (hw _ (List.mem_of_getElem? (i := 88) rfl))) (by decide) (t := .long) (t' := .boolean) (by decide) (by decide)))
  have f130 : Fld Z h123 a "com/example/brelok/brelok/perf/Tally" "lostUpdates" "J" (.long (0 : Int64)) := f111.other W123 (Or.inr (slot_ne (Or.inl (hw _ (List.mem_of_getElem? (i := 170) rfl))) (Or.inr (hw _ (List.mem_of_getElem? (i := 88) rfl))) (by decide) (t := .long) (t' := .boolean) (by decide) (by decide)))
  have f131 : Old Z n0 h123 := f112.wr W123 g_a
  have f132 : Exa Z h123 b4 "java/util/ArrayList" := f113.wr W123
  have f133 : Fld Z h123 b4 "java/util/AbstractList" "modCount" "I" (.int (0 : Int32)) := f114.other W123 (Or.inl (Ne.symm ne_a_b4))
  have f134 : Fld Z h123 b4 "java/util/ArrayList" "elementData" "[Ljava/lang/Object;" (.ref d0) := f115.other W123 (Or.inl (Ne.symm ne_a_b4))
  have f135 : Fld Z h123 b4 "java/util/ArrayList" "size" "I" (.int (0 : Int32)) := f116.other W123 (Or.inl (Ne.symm ne_a_b4))
  have f136 : Exa Z h123 b48 "java/util/ArrayList" := f117.wr W123
  have f137 : Fld Z h123 b48 "java/util/AbstractList" "modCount" "I" (.int (0 : Int32)) := f118.other W123 (Or.inl (Ne.symm ne_a_b48))
  have f138 : Fld Z h123 b48 "java/util/ArrayList" "elementData" "[Ljava/lang/Object;" (.ref d0) := f119.other W123 (Or.inl (Ne.symm ne_a_b48))
  have f139 : Fld Z h123 b48 "java/util/ArrayList" "size" "I" (.int (0 : Int32)) := f120.other W123 (Or.inl (Ne.symm ne_a_b48))
  have f140 : Fld Z h123 a "com/example/brelok/brelok/perf/Tally" "excludes" "Z" (.int (nar .boolean z)) := f108.same W123
  obtain ⟨fs, hr, hrun, hended, hW, hsame⟩ := X123.leave (v := none) (fun _ => rfl)
  refine ⟨_, _, pre0 _ ?_, hrun, hended, _, _, rfl, ?_, ⟨_, rfl⟩, hW, hsame.mono (by decide) (by decide)⟩
  · show Steps p.tables e below (s₁.setTop (mkF m 0 #[.val (.ref a), .val (.ref sa), .val (.int z)] [])) _
    refine sg1 _ ?_
    refine st2 _ ?_
    refine sg3 _ ?_
    refine st4 _ ?_
    refine sg18 _ ?_
    refine st19.trans ?_
    refine st33 _ ?_
    refine sg47 _ ?_
    refine st48 _ ?_
    refine sg66 _ ?_
    refine st67.trans ?_
    refine st85 _ ?_
    refine sg103 _ ?_
    refine st104 _ ?_
    refine sg122 _ ?_
    refine st123 _ ?_
    show Steps p.tables e below (T123.setTop (mkF m 36 #[.val (.ref a), .val (.ref sa), .val (.int z)] [])) _
    exact X123.returnOut hx Bd.returns (hb hby d9_36) hr
  · show Q_rm9 Z a sa z d0 h0 n0 _ T123.heap _
    rw [e123]
    exact ⟨b48, rfl, N123, sz_b48, g_b48, ne_a_b48, K123, f124, f126, f140, f128, f129, f130, f136, f137, f138, f139⟩
theorem d1_0 : decode prog_37_method_1_code 0 = .ok (.aload_n 0, 1) := by decide +kernel
theorem d1_1 : decode prog_37_method_1_code 1 = .ok (.invokespecial 1, 3) := by decide +kernel
theorem d1_4 : decode prog_37_method_1_code 4 = .ok (.aload_n 0, 1) := by decide +kernel
theorem d1_5 : decode prog_37_method_1_code 5 = .ok (.dload_n 1, 1) := by decide +kernel
theorem d1_6 : decode prog_37_method_1_code 6 = .ok (.putfield 7, 3) := by decide +kernel
theorem d1_9 : decode prog_37_method_1_code 9 = .ok (.aload_n 0, 1) := by decide +kernel
theorem d1_10 : decode prog_37_method_1_code 10 = .ok (.lload_n 3, 1) := by decide +kernel
theorem d1_11 : decode prog_37_method_1_code 11 = .ok (.putfield 13, 3) := by decide +kernel
theorem d1_14 : decode prog_37_method_1_code 14 = .ok (.aload_n 0, 1) := by decide +kernel
theorem d1_15 : decode prog_37_method_1_code 15 = .ok (.lload 5, 2) := by decide +kernel
theorem d1_17 : decode prog_37_method_1_code 17 = .ok (.putfield 17, 3) := by decide +kernel
theorem d1_20 : decode prog_37_method_1_code 20 = .ok (.return_, 1) := by decide +kernel
theorem pn_1 : plainName "com/example/brelok/brelok/perf/Timing$Measure" = true := by first | (simp [plainName, overriddenIn]; done) | decide +kernel
theorem ef_rm1 (m : MethodId) (x0 : Addr) (x1 : UInt64) (x2 : Int64) (x3 : Int64) : entryFrame m #[(.ref x0), (.double x1), (.long x2), (.long x3)] 7 = mkF m 0 #[.val (.ref x0), .val (.double x1), .second, .val (.long x2), .second, .val (.long x3), .second] [] := by first | (simp [entryFrame, mkF, argsToLocals, Value.category]; done) | rfl
def Q_rm1 (Z : State) (a : Addr) (fg : UInt64) (ov : Int64) (lu : Int64) (h0 : Heap) (n0 : Nat) (rv : Option Value) (h : Heap) (L : List Loc) : Prop := rv = none ∧ Fr n0 L ∧ Keep h0 h [a] ∧ Exa Z h a "com/example/brelok/brelok/perf/Timing$Measure" ∧ Fld Z h a "com/example/brelok/brelok/perf/Timing$Measure" "figure" "D" (.double fg) ∧ Fld Z h a "com/example/brelok/brelok/perf/Timing$Measure" "overlaps" "J" (.long ov) ∧ Fld Z h a "com/example/brelok/brelok/perf/Timing$Measure" "lostUpdates" "J" (.long lu)
set_option maxRecDepth 65536 in
set_option maxHeartbeats 40000000 in
theorem rm1 (l : Launch) (Z : State) (a0 : Array Value) (hw : ∀ d ∈ tables_1, d.before a0 Z = true) (ws : List Jvm.Cond) (a : Addr) (fg : UInt64) (ov : Int64) (lu : Int64) (h0 : Heap) (n0 : Nat) (Z0 : n0 ≤ h0.size) (E_a : Exa Z h0 a "com/example/brelok/brelok/perf/Timing$Measure") (F_figure : Fld Z h0 a "com/example/brelok/brelok/perf/Timing$Measure" "figure" "D" (.double (0 : UInt64))) (F_overlaps : Fld Z h0 a "com/example/brelok/brelok/perf/Timing$Measure" "overlaps" "J" (.long (0 : Int64))) (F_lostUpdates : Fld Z h0 a "com/example/brelok/brelok/perf/Timing$Measure" "lostUpdates" "J" (.long (0 : Int64))) (g_a : n0 ≤ a) :
    MetFree l (⟨"com/example/brelok/brelok/perf/Timing$Measure", "<init>", "(DJJ)V"⟩ : MethodName) (head1 (Jvm.Cond.code (⟨"com/example/brelok/brelok/perf/Timing$Measure", "<init>", "(DJJ)V"⟩ : MethodName) prog_37_method_1_code 7 none :: ws) ({ frames := 2, cells := 0, slots := 0, locals := 24 } : Room)) (fun av U => av = #[(.ref a), (.double fg), (.long ov), (.long lu)] ∧ Z.Warmed39 U.vm ∧ U.heap = h0) (fun _ _ _ _ _ => True) (fun _ U o U' => ∃ rv L, o = .returned rv ∧ Q_rm1 Z a fg ov lu h0 n0 rv U'.heap L ∧ FrameEnd U o U' L ({ frames := 2, cells := 0, slots := 0, locals := 24 } : Room).cells ({ frames := 2, cells := 0, slots := 0, locals := 24 } : Room).slots) := by
  refine MetFree.of_bodySF (plainFor_of_name pn_1) hisR ?_
  intro p e s m args below meth c s₁ Bd hml0 hP hK
  obtain ⟨rfl, hZ, hh⟩ := hP
  have hx := Bd.exec
  have hby := Bd.bytes
  have hml : c.maxLocals = 7 := hml0
  have hown : s.vm.findClass "com/example/brelok/brelok/perf/Timing$Measure" = some m.cls := findClass_of_methodNamed Bd.named
  have hnm := (name_of_methodNamed Bd.named Bd.method).1
  have X0 : Stand p l e ({ frames := 2, cells := 0, slots := 0, locals := 24 } : Room) s m #[(.ref a), (.double fg), (.long ov), (.long lu)] below meth c s₁ [] 0 0 := Stand.of_body Bd
  have e0 : s₁.heap = h0 := by rw [← hh, Bd.state]; rfl
  have N0 := Fr.nil n0
  have pre0 : ∀ t, Steps p.tables e below (s₁.setTop (mkF m 0 #[.val (.ref a), .val (.double fg), .second, .val (.long ov), .second, .val (.long lu), .second] [])) t → Steps p.tables e below (s₁.setTop (entryFrame m #[(.ref a), (.double fg), (.long ov), (.long lu)] 7)) t := fun t k => castTop (ef_rm1 m a fg ov lu) k
  have sg1 : ∀ target, Steps p.tables e below (s₁.setTop (mkF m 1 #[.val (.ref a), .val (.double fg), .second, .val (.long ov), .second, .val (.long lu), .second] [(.ref a)])) target → Steps p.tables e below (s₁.setTop (mkF m 0 #[.val (.ref a), .val (.double fg), .second, .val (.long ov), .second, .val (.long lu), .second] [])) target := by
    intro target kt
    show Steps p.tables e below (s₁.setTop (mkF m 0 #[.val (.ref a), .val (.double fg), .second, .val (.long ov), .second, .val (.long lu), .second] [])) _
    refine XS.aloadN X0.here hx rfl (hb hby d1_0) rfl rfl ?_
    exact kt
  obtain ⟨_, _, ⟨T2, L2, k2, n2⟩, -, X2, ⟨Lc2, hQ2, l2, y2, z2⟩, st2⟩ := X0.specialBack hx (y := (⟨"java/lang/Record", "<init>", "()V"⟩ : MethodName)) rfl hown (mvT hZ (hw _ (List.mem_of_getElem? (i := 9) rfl))) (mvT hZ (hw _ (List.mem_of_getElem? (i := 10) rfl))) (mvT hZ (hw _ (List.mem_of_getElem? (i := 13) rfl))) (by decide) (backOf (W := 0) (rm2 l Z a0 hw [] a h0 n0 Z0 ) hZ (hw _ (List.mem_of_getElem? (i := 13) rfl)) (hw _ (List.mem_of_getElem? (i := 12) rfl)) (by decide) (by decide)) (g := (mkF m 1 #[.val (.ref a), .val (.double fg), .second, .val (.long ov), .second, .val (.long lu), .second] [(.ref a)])) rfl (by rw [hml]; rfl) (Steps.refl _) (a := a) (argsL := []) (rest := []) (lenOf pd_3 rfl) rfl (by show 2 * 0 + _ ≤ _; exact Nat.le_of_eq rfl) (hb hby d1_1) (fun _ _ => ⟨rfl, e0, (by decide : 0 + 0 ≤ _), (by decide : 0 + 0 ≤ _)⟩)
  dsimp only [Pt.U, Pt.locs, Pt.cells, Pt.slots] at X2 l2 y2 z2 st2 hQ2
  subst l2 y2 z2
  obtain ⟨rfl, N2q, c2_0⟩ := hQ2
  have N2 := Fr.app N0 N2q
  have sg3 : ∀ target, Steps p.tables e below (T2.setTop (mkF m 6 #[.val (.ref a), .val (.double fg), .second, .val (.long ov), .second, .val (.long lu), .second] [(.double fg), (.ref a)])) target → Steps p.tables e below (T2.setTop (mkF m 4 #[.val (.ref a), .val (.double fg), .second, .val (.long ov), .second, .val (.long lu), .second] [])) target := by
    intro target kt
    show Steps p.tables e below (T2.setTop (mkF m 4 #[.val (.ref a), .val (.double fg), .second, .val (.long ov), .second, .val (.long lu), .second] [])) _
    refine XS.aloadN X2.here hx rfl (hb hby d1_4) rfl rfl ?_
    show Steps p.tables e below (T2.setTop (mkF m 5 #[.val (.ref a), .val (.double fg), .second, .val (.long ov), .second, .val (.long lu), .second] [(.ref a)])) _
    refine XS.dloadN X2.here hx rfl (hb hby d1_5) rfl ?_
    exact kt
  obtain ⟨T4, h4, X4, e4, W4, st4⟩ := putF X2 hx hZ hown (host := "") (Or.inl (hw _ (List.mem_of_getElem? (i := 17) rfl))) Via.refl c2_0 F_figure E_a (Or.inr ⟨(hw _ (List.mem_of_getElem? (i := 18) rfl)), rfl, hnm⟩) (hw _ (List.mem_of_getElem? (i := 4) rfl)) (ty := .double) (by decide) rfl rfl (g := (mkF m 6 #[.val (.ref a), .val (.double fg), .second, .val (.long ov), .second, .val (.long lu), .second] [(.double fg), (.ref a)])) rfl rfl (hb hby d1_6)
  have N4 := Fr.snoc X4 N2 g_a
  have Zs4 : n0 ≤ h4.size := by rw [W4.size]; exact Z0
  have K4 : Keep h0 h4 [a] := (Keep.refl h0 [a]).wr W4 (Or.inl (List.mem_of_getElem? (i := 0) rfl))
  have f5 : Exa Z h4 a "com/example/brelok/brelok/perf/Timing$Measure" := E_a.wr W4
  have f6 : Fld Z h4 a "com/example/brelok/brelok/perf/Timing$Measure" "overlaps" "J" (.long (0 : Int64)) := F_overlaps.other W4 (Or.inr (slot_ne (Or.inr (hw _ (List.mem_of_getElem? (i := 20) rfl))) (Or.inr (hw _ (List.mem_of_getElem? (i := 18) rfl))) (by decide) (t := .long) (t' := .double) (by decide) (by decide)))
  have f7 : Fld Z h4 a "com/example/brelok/brelok/perf/Timing$Measure" "lostUpdates" "J" (.long (0 : Int64)) := F_lostUpdates.other W4 (Or.inr (slot_ne (Or.inr (hw _ (List.mem_of_getElem? (i := 22) rfl))) (Or.inr (hw _ (List.mem_of_getElem? (i := 18) rfl))) (by decide) (t := .long) (t' := .double) (by decide) (by decide)))
  have f8 : Fld Z h4 a "com/example/brelok/brelok/perf/Timing$Measure" "figure" "D" (.double fg) := F_figure.same W4
  have sg9 : ∀ target, Steps p.tables e below (T4.setTop (mkF m 11 #[.val (.ref a), .val (.double fg), .second, .val (.long ov), .second, .val (.long lu), .second] [(.long ov), (.ref a)])) target → Steps p.tables e below (T4.setTop (mkF m 9 #[.val (.ref a), .val (.double fg), .second, .val (.long ov), .second, .val (.long lu), .second] [])) target := by
    intro target kt
    show Steps p.tables e below (T4.setTop (mkF m 9 #[.val (.ref a), .val (.double fg), .second, .val (.long ov), .second, .val (.long lu), .second] [])) _
    refine XS.aloadN X4.here hx rfl (hb hby d1_9) rfl rfl ?_
    show Steps p.tables e below (T4.setTop (mkF m 10 #[.val (.ref a), .val (.double fg), .second, .val (.long ov), .second, .val (.long lu), .second] [(.ref a)])) _
    refine XS.lloadN X4.here hx rfl (hb hby d1_10) rfl ?_
    exact kt
  obtain ⟨T10, h10, X10, e10, W10, st10⟩ := putF X4 hx hZ hown (host := "") (Or.inl (hw _ (List.mem_of_getElem? (i := 19) rfl))) Via.refl e4 f6 f5 (Or.inr ⟨(hw _ (List.mem_of_getElem? (i := 20) rfl)), rfl, hnm⟩) (hw _ (List.mem_of_getElem? (i := 4) rfl)) (ty := .long) (by decide) rfl rfl (g := (mkF m 11 #[.val (.ref a), .val (.double fg), .second, .val (.long ov), .second, .val (.long lu), .second] [(.long ov), (.ref a)])) rfl rfl (hb hby d1_11)
  have N10 := Fr.snoc X10 N4 g_a
  have Zs10 : n0 ≤ h10.size := by rw [W10.size]; exact Zs4
  have K10 : Keep h0 h10 [a] := K4.wr W10 (Or.inl (List.mem_of_getElem? (i := 0) rfl))
  have f11 : Exa Z h10 a "com/example/brelok/brelok/perf/Timing$Measure" := f5.wr W10
  have f12 : Fld Z h10 a "com/example/brelok/brelok/perf/Timing$Measure" "figure" "D" (.double fg) := f8.other W10 (Or.inr (slot_ne (Or.inr (hw _ (List.mem_of_getElem? (i := 18) rfl))) (Or.inr (hw _ (List.mem_of_getElem? (i := 20) rfl))) (by decide) (t := .double) (t' := .long) (by decide) (by decide)))
  have f13 : Fld Z h10 a "com/example/brelok/brelok/perf/Timing$Measure" "lostUpdates" "J" (.long (0 : Int64)) := f7.other W10 (Or.inr (slot_ne (Or.inr (hw _ (List.mem_of_getElem? (i := 22) rfl))) (Or.inr (hw _ (List.mem_of_getElem? (i := 20) rfl))) (by decide) (t := .long) (t' := .long) (by decide) (by decide)))
  have f14 : Fld Z h10 a "com/example/brelok/brelok/perf/Timing$Measure" "overlaps" "J" (.long ov) := f6.same W10
  have sg15 : ∀ target, Steps p.tables e below (T10.setTop (mkF m 17 #[.val (.ref a), .val (.double fg), .second, .val (.long ov), .second, .val (.long lu), .second] [(.long lu), (.ref a)])) target → Steps p.tables e below (T10.setTop (mkF m 14 #[.val (.ref a), .val (.double fg), .second, .val (.long ov), .second, .val (.long lu), .second] [])) target := by
    intro target kt
    show Steps p.tables e below (T10.setTop (mkF m 14 #[.val (.ref a), .val (.double fg), .second, .val (.long ov), .second, .val (.long lu), .second] [])) _
    refine XS.aloadN X10.here hx rfl (hb hby d1_14) rfl rfl ?_
    show Steps p.tables e below (T10.setTop (mkF m 15 #[.val (.ref a), .val (.double fg), .second, .val (.long ov), .second, .val (.long lu), .second] [(.ref a)])) _
    refine XS.lload X10.here hx rfl (hb hby d1_15) rfl ?_
    exact kt
  obtain ⟨T16, h16, X16, e16, W16, st16⟩ := putF X10 hx hZ hown (host := "") (Or.inl (hw _ (List.mem_of_getElem? (i := 21) rfl))) Via.refl e10 f13 f11 (Or.inr ⟨(hw _ (List.mem_of_getElem? (i := 22) rfl)), rfl, hnm⟩) (hw _ (List.mem_of_getElem? (i := 4) rfl)) (ty := .long) (by decide) rfl rfl (g := (mkF m 17 #[.val (.ref a), .val (.double fg), .second, .val (.long ov), .second, .val (.long lu), .second] [(.long lu), (.ref a)])) rfl rfl (hb hby d1_17)
  have N16 := Fr.snoc X16 N10 g_a
  have Zs16 : n0 ≤ h16.size := by rw [W16.size]; exact Zs10
  have K16 : Keep h0 h16 [a] := K10.wr W16 (Or.inl (List.mem_of_getElem? (i := 0) rfl))
  have f17 : Exa Z h16 a "com/example/brelok/brelok/perf/Timing$Measure" := f11.wr W16
  have f18 : Fld Z h16 a "com/example/brelok/brelok/perf/Timing$Measure" "figure" "D" (.double fg) := f12.other W16 (Or.inr (slot_ne (Or.inr (hw _ (List.mem_of_getElem? (i := 18) rfl))) (Or.inr (hw _ (List.mem_of_getElem? (i := 22) rfl))) (by decide) (t := .double) (t' := .long) (by decide) (by decide)))
  have f19 : Fld Z h16 a "com/example/brelok/brelok/perf/Timing$Measure" "overlaps" "J" (.long ov) := f14.other W16 (Or.inr (slot_ne (Or.inr (hw _ (List.mem_of_getElem? (i := 20) rfl))) (Or.inr (hw _ (List.mem_of_getElem? (i := 22) rfl))) (by decide) (t := .long) (t' := .long) (by decide) (by decide)))
  have f20 : Fld Z h16 a "com/example/brelok/brelok/perf/Timing$Measure" "lostUpdates" "J" (.long lu) := f13.same W16
  obtain ⟨fs, hr, hrun, hended, hW, hsame⟩ := X16.leave (v := none) (fun _ => rfl)
  refine ⟨_, _, pre0 _ ?_, hrun, hended, _, _, rfl, ?_, ⟨_, rfl⟩, hW, hsame.mono (by decide) (by decide)⟩
  · show Steps p.tables e below (s₁.setTop (mkF m 0 #[.val (.ref a), .val (.double fg), .second, .val (.long ov), .second, .val (.long lu), .second] [])) _
    refine sg1 _ ?_
    refine st2.trans ?_
    refine sg3 _ ?_
    refine st4 _ ?_
    refine sg9 _ ?_
    refine st10 _ ?_
    refine sg15 _ ?_
    refine st16 _ ?_
    show Steps p.tables e below (T16.setTop (mkF m 20 #[.val (.ref a), .val (.double fg), .second, .val (.long ov), .second, .val (.long lu), .second] [])) _
    exact X16.returnOut hx Bd.returns (hb hby d1_20) hr
  · show Q_rm1 Z a fg ov lu h0 n0 _ T16.heap _
    rw [e16]
    exact ⟨rfl, N16, K16, f17, f18, f19, f20⟩
theorem d15_0 : decode prog_37_method_5_code 0 = .ok (.aload_n 0, 1) := by decide +kernel
theorem d15_1 : decode prog_37_method_5_code 1 = .ok (.getfield 7, 3) := by decide +kernel
theorem d15_4 : decode prog_37_method_5_code 4 = .ok (.dreturn, 1) := by decide +kernel
theorem pn_15 : plainName "com/example/brelok/brelok/perf/Timing$Measure" = true := by first | (simp [plainName, overriddenIn]; done) | decide +kernel
theorem ef_rm15 (m : MethodId) (x0 : Addr) : entryFrame m #[(.ref x0)] 1 = mkF m 0 #[.val (.ref x0)] [] := by first | (simp [entryFrame, mkF, argsToLocals, Value.category]; done) | rfl
def Q_rm15 (Z : State) (a : Addr) (v : UInt64) (h0 : Heap) (n0 : Nat) (rv : Option Value) (h : Heap) (L : List Loc) : Prop := rv = some (.double v) ∧ Fr n0 L ∧ h = h0
set_option maxRecDepth 65536 in
set_option maxHeartbeats 40000000 in
theorem rm15 (l : Launch) (Z : State) (a0 : Array Value) (hw : ∀ d ∈ tables_1, d.before a0 Z = true) (ws : List Jvm.Cond) (a : Addr) (v : UInt64) (h0 : Heap) (n0 : Nat) (Z0 : n0 ≤ h0.size) (F1 : Fld Z h0 a "com/example/brelok/brelok/perf/Timing$Measure" "figure" "D" (.double v)) :
    MetFree l (⟨"com/example/brelok/brelok/perf/Timing$Measure", "figure", "()D"⟩ : MethodName) (head1 (Jvm.Cond.code (⟨"com/example/brelok/brelok/perf/Timing$Measure", "figure", "()D"⟩ : MethodName) prog_37_method_5_code 1 (some .double) :: ws) ({ frames := 0, cells := 0, slots := 0, locals := 0 } : Room)) (fun av U => av = #[(.ref a)] ∧ Z.Warmed39 U.vm ∧ U.heap = h0) (fun _ _ _ _ _ => True) (fun _ U o U' => ∃ rv L, o = .returned rv ∧ Q_rm15 Z a v h0 n0 rv U'.heap L ∧ FrameEnd U o U' L ({ frames := 0, cells := 0, slots := 0, locals := 0 } : Room).cells ({ frames := 0, cells := 0, slots := 0, locals := 0 } : Room).slots) := by
  refine MetFree.of_bodySF (plainFor_of_name pn_15) hisR ?_
  intro p e s m args below meth c s₁ Bd hml0 hP hK
  obtain ⟨rfl, hZ, hh⟩ := hP
  have hx := Bd.exec
  have hby := Bd.bytes
  have hml : c.maxLocals = 1 := hml0
  have hown : s.vm.findClass "com/example/brelok/brelok/perf/Timing$Measure" = some m.cls := findClass_of_methodNamed Bd.named
  have hnm := (name_of_methodNamed Bd.named Bd.method).1
  have X0 : Stand p l e ({ frames := 0, cells := 0, slots := 0, locals := 0 } : Room) s m #[(.ref a)] below meth c s₁ [] 0 0 := Stand.of_body Bd
  have e0 : s₁.heap = h0 := by rw [← hh, Bd.state]; rfl
  have N0 := Fr.nil n0
  have pre0 : ∀ t, Steps p.tables e below (s₁.setTop (mkF m 0 #[.val (.ref a)] [])) t → Steps p.tables e below (s₁.setTop (entryFrame m #[(.ref a)] 1)) t := fun t k => castTop (ef_rm15 m a) k
  have sg1 : ∀ target, Steps p.tables e below (s₁.setTop (mkF m 1 #[.val (.ref a)] [(.ref a)])) target → Steps p.tables e below (s₁.setTop (mkF m 0 #[.val (.ref a)] [])) target := by
    intro target kt
    show Steps p.tables e below (s₁.setTop (mkF m 0 #[.val (.ref a)] [])) _
    refine XS.aloadN X0.here hx rfl (hb hby d15_0) rfl rfl ?_
    exact kt
  obtain ⟨T2, X2, e2, st2⟩ := getF X0 hx hZ hown (host := "") (Or.inl (hw _ (List.mem_of_getElem? (i := 17) rfl))) Via.refl e0 F1 (g := (mkF m 1 #[.val (.ref a)] [(.ref a)])) rfl rfl (hb hby d15_1)
  obtain ⟨fs, hr, hrun, hended, hW, hsame⟩ := X2.leave (v := some (.double v)) (fun h => by rw [Bd.returns] at h; cases h)
  refine ⟨_, _, pre0 _ ?_, hrun, hended, _, _, rfl, ?_, ⟨_, rfl⟩, hW, hsame.mono (by decide) (by decide)⟩
  · show Steps p.tables e below (s₁.setTop (mkF m 0 #[.val (.ref a)] [])) _
    refine sg1 _ ?_
    refine st2 _ ?_
    show Steps p.tables e below (T2.setTop (mkF m 4 #[.val (.ref a)] [(.double v)])) _
    exact retOut X2 hx Bd.returns rfl (Or.inr (Or.inr (Or.inl ⟨rfl, rfl, _, rfl⟩))) (hb hby d15_4) hr
  · show Q_rm15 Z a v h0 n0 _ T2.heap _
    rw [e2]
    exact ⟨rfl, N0, rfl⟩
theorem d25_0 : decode prog_37_method_6_code 0 = .ok (.aload_n 0, 1) := by decide +kernel
theorem d25_1 : decode prog_37_method_6_code 1 = .ok (.getfield 13, 3) := by decide +kernel
theorem d25_4 : decode prog_37_method_6_code 4 = .ok (.lreturn, 1) := by decide +kernel
theorem pn_25 : plainName "com/example/brelok/brelok/perf/Timing$Measure" = true := by first | (simp [plainName, overriddenIn]; done) | decide +kernel
theorem ef_rm25 (m : MethodId) (x0 : Addr) : entryFrame m #[(.ref x0)] 1 = mkF m 0 #[.val (.ref x0)] [] := by first | (simp [entryFrame, mkF, argsToLocals, Value.category]; done) | rfl
def Q_rm25 (Z : State) (a : Addr) (v : Int64) (h0 : Heap) (n0 : Nat) (rv : Option Value) (h : Heap) (L : List Loc) : Prop := rv = some (.long v) ∧ Fr n0 L ∧ h = h0
set_option maxRecDepth 65536 in
set_option maxHeartbeats 40000000 in
theorem rm25 (l : Launch) (Z : State) (a0 : Array Value) (hw : ∀ d ∈ tables_1, d.before a0 Z = true) (ws : List Jvm.Cond) (a : Addr) (v : Int64) (h0 : Heap) (n0 : Nat) (Z0 : n0 ≤ h0.size) (F1 : Fld Z h0 a "com/example/brelok/brelok/perf/Timing$Measure" "overlaps" "J" (.long v)) :
    MetFree l (⟨"com/example/brelok/brelok/perf/Timing$Measure", "overlaps", "()J"⟩ : MethodName) (head1 (Jvm.Cond.code (⟨"com/example/brelok/brelok/perf/Timing$Measure", "overlaps", "()J"⟩ : MethodName) prog_37_method_6_code 1 (some .long) :: ws) ({ frames := 0, cells := 0, slots := 0, locals := 0 } : Room)) (fun av U => av = #[(.ref a)] ∧ Z.Warmed39 U.vm ∧ U.heap = h0) (fun _ _ _ _ _ => True) (fun _ U o U' => ∃ rv L, o = .returned rv ∧ Q_rm25 Z a v h0 n0 rv U'.heap L ∧ FrameEnd U o U' L ({ frames := 0, cells := 0, slots := 0, locals := 0 } : Room).cells ({ frames := 0, cells := 0, slots := 0, locals := 0 } : Room).slots) := by
  refine MetFree.of_bodySF (plainFor_of_name pn_25) hisR ?_
  intro p e s m args below meth c s₁ Bd hml0 hP hK
  obtain ⟨rfl, hZ, hh⟩ := hP
  have hx := Bd.exec
  have hby := Bd.bytes
  have hml : c.maxLocals = 1 := hml0
  have hown : s.vm.findClass "com/example/brelok/brelok/perf/Timing$Measure" = some m.cls := findClass_of_methodNamed Bd.named
  have hnm := (name_of_methodNamed Bd.named Bd.method).1
  have X0 : Stand p l e ({ frames := 0, cells := 0, slots := 0, locals := 0 } : Room) s m #[(.ref a)] below meth c s₁ [] 0 0 := Stand.of_body Bd
  have e0 : s₁.heap = h0 := by rw [← hh, Bd.state]; rfl
  have N0 := Fr.nil n0
  have pre0 : ∀ t, Steps p.tables e below (s₁.setTop (mkF m 0 #[.val (.ref a)] [])) t → Steps p.tables e below (s₁.setTop (entryFrame m #[(.ref a)] 1)) t := fun t k => castTop (ef_rm25 m a) k
  have sg1 : ∀ target, Steps p.tables e below (s₁.setTop (mkF m 1 #[.val (.ref a)] [(.ref a)])) target → Steps p.tables e below (s₁.setTop (mkF m 0 #[.val (.ref a)] [])) target := by
    intro target kt
    show Steps p.tables e below (s₁.setTop (mkF m 0 #[.val (.ref a)] [])) _
    refine XS.aloadN X0.here hx rfl (hb hby d25_0) rfl rfl ?_
    exact kt
  obtain ⟨T2, X2, e2, st2⟩ := getF X0 hx hZ hown (host := "") (Or.inl (hw _ (List.mem_of_getElem? (i := 19) rfl))) Via.refl e0 F1 (g := (mkF m 1 #[.val (.ref a)] [(.ref a)])) rfl rfl (hb hby d25_1)
  obtain ⟨fs, hr, hrun, hended, hW, hsame⟩ := X2.leave (v := some (.long v)) (fun h => by rw [Bd.returns] at h; cases h)
  refine ⟨_, _, pre0 _ ?_, hrun, hended, _, _, rfl, ?_, ⟨_, rfl⟩, hW, hsame.mono (by decide) (by decide)⟩
  · show Steps p.tables e below (s₁.setTop (mkF m 0 #[.val (.ref a)] [])) _
    refine sg1 _ ?_
    refine st2 _ ?_
    show Steps p.tables e below (T2.setTop (mkF m 4 #[.val (.ref a)] [(.long v)])) _
    exact retOut X2 hx Bd.returns rfl (Or.inr (Or.inl ⟨rfl, rfl, _, rfl⟩)) (hb hby d25_4) hr
  · show Q_rm25 Z a v h0 n0 _ T2.heap _
    rw [e2]
    exact ⟨rfl, N0, rfl⟩
theorem d26_0 : decode prog_37_method_7_code 0 = .ok (.aload_n 0, 1) := by decide +kernel
theorem d26_1 : decode prog_37_method_7_code 1 = .ok (.getfield 17, 3) := by decide +kernel
theorem d26_4 : decode prog_37_method_7_code 4 = .ok (.lreturn, 1) := by decide +kernel
theorem pn_26 : plainName "com/example/brelok/brelok/perf/Timing$Measure" = true := by first | (simp [plainName, overriddenIn]; done) | decide +kernel
theorem ef_rm26 (m : MethodId) (x0 : Addr) : entryFrame m #[(.ref x0)] 1 = mkF m 0 #[.val (.ref x0)] [] := by first | (simp [entryFrame, mkF, argsToLocals, Value.category]; done) | rfl
def Q_rm26 (Z : State) (a : Addr) (v : Int64) (h0 : Heap) (n0 : Nat) (rv : Option Value) (h : Heap) (L : List Loc) : Prop := rv = some (.long v) ∧ Fr n0 L ∧ h = h0
set_option maxRecDepth 65536 in
set_option maxHeartbeats 40000000 in
theorem rm26 (l : Launch) (Z : State) (a0 : Array Value) (hw : ∀ d ∈ tables_1, d.before a0 Z = true) (ws : List Jvm.Cond) (a : Addr) (v : Int64) (h0 : Heap) (n0 : Nat) (Z0 : n0 ≤ h0.size) (F1 : Fld Z h0 a "com/example/brelok/brelok/perf/Timing$Measure" "lostUpdates" "J" (.long v)) :
    MetFree l (⟨"com/example/brelok/brelok/perf/Timing$Measure", "lostUpdates", "()J"⟩ : MethodName) (head1 (Jvm.Cond.code (⟨"com/example/brelok/brelok/perf/Timing$Measure", "lostUpdates", "()J"⟩ : MethodName) prog_37_method_7_code 1 (some .long) :: ws) ({ frames := 0, cells := 0, slots := 0, locals := 0 } : Room)) (fun av U => av = #[(.ref a)] ∧ Z.Warmed39 U.vm ∧ U.heap = h0) (fun _ _ _ _ _ => True) (fun _ U o U' => ∃ rv L, o = .returned rv ∧ Q_rm26 Z a v h0 n0 rv U'.heap L ∧ FrameEnd U o U' L ({ frames := 0, cells := 0, slots := 0, locals := 0 } : Room).cells ({ frames := 0, cells := 0, slots := 0, locals := 0 } : Room).slots) := by
  refine MetFree.of_bodySF (plainFor_of_name pn_26) hisR ?_
  intro p e s m args below meth c s₁ Bd hml0 hP hK
  obtain ⟨rfl, hZ, hh⟩ := hP
  have hx := Bd.exec
  have hby := Bd.bytes
  have hml : c.maxLocals = 1 := hml0
  have hown : s.vm.findClass "com/example/brelok/brelok/perf/Timing$Measure" = some m.cls := findClass_of_methodNamed Bd.named
  have hnm := (name_of_methodNamed Bd.named Bd.method).1
  have X0 : Stand p l e ({ frames := 0, cells := 0, slots := 0, locals := 0 } : Room) s m #[(.ref a)] below meth c s₁ [] 0 0 := Stand.of_body Bd
  have e0 : s₁.heap = h0 := by rw [← hh, Bd.state]; rfl
  have N0 := Fr.nil n0
  have pre0 : ∀ t, Steps p.tables e below (s₁.setTop (mkF m 0 #[.val (.ref a)] [])) t → Steps p.tables e below (s₁.setTop (entryFrame m #[(.ref a)] 1)) t := fun t k => castTop (ef_rm26 m a) k
  have sg1 : ∀ target, Steps p.tables e below (s₁.setTop (mkF m 1 #[.val (.ref a)] [(.ref a)])) target → Steps p.tables e below (s₁.setTop (mkF m 0 #[.val (.ref a)] [])) target := by
    intro target kt
    show Steps p.tables e below (s₁.setTop (mkF m 0 #[.val (.ref a)] [])) _
    refine XS.aloadN X0.here hx rfl (hb hby d26_0) rfl rfl ?_
    exact kt
  obtain ⟨T2, X2, e2, st2⟩ := getF X0 hx hZ hown (host := "") (Or.inl (hw _ (List.mem_of_getElem? (i := 21) rfl))) Via.refl e0 F1 (g := (mkF m 1 #[.val (.ref a)] [(.ref a)])) rfl rfl (hb hby d26_1)
  obtain ⟨fs, hr, hrun, hended, hW, hsame⟩ := X2.leave (v := some (.long v)) (fun h => by rw [Bd.returns] at h; cases h)
  refine ⟨_, _, pre0 _ ?_, hrun, hended, _, _, rfl, ?_, ⟨_, rfl⟩, hW, hsame.mono (by decide) (by decide)⟩
  · show Steps p.tables e below (s₁.setTop (mkF m 0 #[.val (.ref a)] [])) _
    refine sg1 _ ?_
    refine st2 _ ?_
    show Steps p.tables e below (T2.setTop (mkF m 4 #[.val (.ref a)] [(.long v)])) _
    exact retOut X2 hx Bd.returns rfl (Or.inr (Or.inl ⟨rfl, rfl, _, rfl⟩)) (hb hby d26_4) hr
  · show Q_rm26 Z a v h0 n0 _ T2.heap _
    rw [e2]
    exact ⟨rfl, N0, rfl⟩
theorem d17_0 : decode jdk_117_method_9_code 0 = .ok (.aload_n 0, 1) := by decide +kernel
theorem d17_1 : decode jdk_117_method_9_code 1 = .ok (.invokespecial 113, 3) := by decide +kernel
theorem d17_4 : decode jdk_117_method_9_code 4 = .ok (.aload_n 0, 1) := by decide +kernel
theorem d17_5 : decode jdk_117_method_9_code 5 = .ok (.dload_n 1, 1) := by decide +kernel
theorem d17_6 : decode jdk_117_method_9_code 6 = .ok (.putfield 118, 3) := by decide +kernel
theorem d17_9 : decode jdk_117_method_9_code 9 = .ok (.return_, 1) := by decide +kernel
theorem pn_17 : plainName "java/lang/Double" = true := by first | (simp [plainName, overriddenIn]; done) | decide +kernel
theorem ef_rm17 (m : MethodId) (x0 : Addr) (x1 : UInt64) : entryFrame m #[(.ref x0), (.double x1)] 3 = mkF m 0 #[.val (.ref x0), .val (.double x1), .second] [] := by first | (simp [entryFrame, mkF, argsToLocals, Value.category]; done) | rfl
def Q_rm17 (Z : State) (a : Addr) (v : UInt64) (h0 : Heap) (n0 : Nat) (rv : Option Value) (h : Heap) (L : List Loc) : Prop := rv = none ∧ Fr n0 L ∧ Keep h0 h [a] ∧ Exa Z h a "java/lang/Double"
set_option maxRecDepth 65536 in
set_option maxHeartbeats 40000000 in
theorem rm17 (l : Launch) (Z : State) (a0 : Array Value) (hw : ∀ d ∈ tables_1, d.before a0 Z = true) (ws : List Jvm.Cond) (a : Addr) (v : UInt64) (h0 : Heap) (n0 : Nat) (Z0 : n0 ≤ h0.size) (E_a : Exa Z h0 a "java/lang/Double") (F1 : Fld Z h0 a "java/lang/Double" "value" "D" (.double (0 : UInt64))) (g_a : n0 ≤ a) :
    MetFree l (⟨"java/lang/Double", "<init>", "(D)V"⟩ : MethodName) (head1 (Jvm.Cond.code (⟨"java/lang/Double", "<init>", "(D)V"⟩ : MethodName) jdk_117_method_9_code 3 none :: ws) ({ frames := 2, cells := 0, slots := 0, locals := 24 } : Room)) (fun av U => av = #[(.ref a), (.double v)] ∧ Z.Warmed39 U.vm ∧ U.heap = h0) (fun _ _ _ _ _ => True) (fun _ U o U' => ∃ rv L, o = .returned rv ∧ Q_rm17 Z a v h0 n0 rv U'.heap L ∧ FrameEnd U o U' L ({ frames := 2, cells := 0, slots := 0, locals := 24 } : Room).cells ({ frames := 2, cells := 0, slots := 0, locals := 24 } : Room).slots) := by
  refine MetFree.of_bodySF (plainFor_of_name pn_17) hisR ?_
  intro p e s m args below meth c s₁ Bd hml0 hP hK
  obtain ⟨rfl, hZ, hh⟩ := hP
  have hx := Bd.exec
  have hby := Bd.bytes
  have hml : c.maxLocals = 3 := hml0
  have hown : s.vm.findClass "java/lang/Double" = some m.cls := findClass_of_methodNamed Bd.named
  have hnm := (name_of_methodNamed Bd.named Bd.method).1
  have X0 : Stand p l e ({ frames := 2, cells := 0, slots := 0, locals := 24 } : Room) s m #[(.ref a), (.double v)] below meth c s₁ [] 0 0 := Stand.of_body Bd
  have e0 : s₁.heap = h0 := by rw [← hh, Bd.state]; rfl
  have N0 := Fr.nil n0
  have pre0 : ∀ t, Steps p.tables e below (s₁.setTop (mkF m 0 #[.val (.ref a), .val (.double v), .second] [])) t → Steps p.tables e below (s₁.setTop (entryFrame m #[(.ref a), (.double v)] 3)) t := fun t k => castTop (ef_rm17 m a v) k
  have sg1 : ∀ target, Steps p.tables e below (s₁.setTop (mkF m 1 #[.val (.ref a), .val (.double v), .second] [(.ref a)])) target → Steps p.tables e below (s₁.setTop (mkF m 0 #[.val (.ref a), .val (.double v), .second] [])) target := by
    intro target kt
    show Steps p.tables e below (s₁.setTop (mkF m 0 #[.val (.ref a), .val (.double v), .second] [])) _
    refine XS.aloadN X0.here hx rfl (hb hby d17_0) rfl rfl ?_
    exact kt
  obtain ⟨_, _, ⟨T2, L2, k2, n2⟩, -, X2, ⟨Lc2, hQ2, l2, y2, z2⟩, st2⟩ := X0.specialBack hx (y := (⟨"java/lang/Number", "<init>", "()V"⟩ : MethodName)) rfl hown (mvT hZ (hw _ (List.mem_of_getElem? (i := 114) rfl))) (mvT hZ (hw _ (List.mem_of_getElem? (i := 115) rfl))) (mvT hZ (hw _ (List.mem_of_getElem? (i := 119) rfl))) (by decide) (backOf (W := 0) (rm18 l Z a0 hw [] a h0 n0 Z0 ) hZ (hw _ (List.mem_of_getElem? (i := 119) rfl)) (hw _ (List.mem_of_getElem? (i := 118) rfl)) (by decide) (by decide)) (g := (mkF m 1 #[.val (.ref a), .val (.double v), .second] [(.ref a)])) rfl (by rw [hml]; rfl) (Steps.refl _) (a := a) (argsL := []) (rest := []) (lenOf pd_3 rfl) rfl (by show 2 * 0 + _ ≤ _; exact Nat.le_of_eq rfl) (hb hby d17_1) (fun _ _ => ⟨rfl, e0, (by decide : 0 + 0 ≤ _), (by decide : 0 + 0 ≤ _)⟩)
  dsimp only [Pt.U, Pt.locs, Pt.cells, Pt.slots] at X2 l2 y2 z2 st2 hQ2
  subst l2 y2 z2
  obtain ⟨rfl, N2q, c2_0⟩ := hQ2
  have N2 := Fr.app N0 N2q
  have sg3 : ∀ target, Steps p.tables e below (T2.setTop (mkF m 6 #[.val (.ref a), .val (.double v), .second] [(.double v), (.ref a)])) target → Steps p.tables e below (T2.setTop (mkF m 4 #[.val (.ref a), .val (.double v), .second] [])) target := by
    intro target kt
    show Steps p.tables e below (T2.setTop (mkF m 4 #[.val (.ref a), .val (.double v), .second] [])) _
    refine XS.aloadN X2.here hx rfl (hb hby d17_4) rfl rfl ?_
    show Steps p.tables e below (T2.setTop (mkF m 5 #[.val (.ref a), .val (.double v), .second] [(.ref a)])) _
    refine XS.dloadN X2.here hx rfl (hb hby d17_5) rfl ?_
    exact kt
  obtain ⟨T4, h4, X4, e4, W4, st4⟩ := putF X2 hx hZ hown (host := "") (Or.inl (hw _ (List.mem_of_getElem? (i := 121) rfl))) Via.refl c2_0 F1 E_a (Or.inr ⟨(hw _ (List.mem_of_getElem? (i := 122) rfl)), rfl, hnm⟩) (hw _ (List.mem_of_getElem? (i := 109) rfl)) (ty := .double) (by decide) rfl rfl (g := (mkF m 6 #[.val (.ref a), .val (.double v), .second] [(.double v), (.ref a)])) rfl rfl (hb hby d17_6)
  have N4 := Fr.snoc X4 N2 g_a
  have Zs4 : n0 ≤ h4.size := by rw [W4.size]; exact Z0
  have K4 : Keep h0 h4 [a] := (Keep.refl h0 [a]).wr W4 (Or.inl (List.mem_of_getElem? (i := 0) rfl))
  have f5 : Exa Z h4 a "java/lang/Double" := E_a.wr W4
  have f6 : Fld Z h4 a "java/lang/Double" "value" "D" (.double v) := F1.same W4
  obtain ⟨fs, hr, hrun, hended, hW, hsame⟩ := X4.leave (v := none) (fun _ => rfl)
  refine ⟨_, _, pre0 _ ?_, hrun, hended, _, _, rfl, ?_, ⟨_, rfl⟩, hW, hsame.mono (by decide) (by decide)⟩
  · show Steps p.tables e below (s₁.setTop (mkF m 0 #[.val (.ref a), .val (.double v), .second] [])) _
    refine sg1 _ ?_
    refine st2.trans ?_
    refine sg3 _ ?_
    refine st4 _ ?_
    show Steps p.tables e below (T4.setTop (mkF m 9 #[.val (.ref a), .val (.double v), .second] [])) _
    exact X4.returnOut hx Bd.returns (hb hby d17_9) hr
  · show Q_rm17 Z a v h0 n0 _ T4.heap _
    rw [e4]
    exact ⟨rfl, N4, K4, f5⟩
theorem d16_0 : decode jdk_117_method_4_code 0 = .ok (.new 1, 3) := by decide +kernel
theorem d16_3 : decode jdk_117_method_4_code 3 = .ok (.dup, 1) := by decide +kernel
theorem d16_4 : decode jdk_117_method_4_code 4 = .ok (.dload_n 0, 1) := by decide +kernel
theorem d16_5 : decode jdk_117_method_4_code 5 = .ok (.invokespecial 105, 3) := by decide +kernel
theorem pd_7 : parseMethodDescriptor "(D)V" = some ⟨[.double], none⟩ := by decide +kernel
theorem d16_8 : decode jdk_117_method_4_code 8 = .ok (.areturn, 1) := by decide +kernel
theorem pn_16 : plainName "java/lang/Double" = true := by first | (simp [plainName, overriddenIn]; done) | decide +kernel
theorem ef_rm16 (m : MethodId) (x0 : UInt64) : entryFrame m #[(.double x0)] 2 = mkF m 0 #[.val (.double x0), .second] [] := by first | (simp [entryFrame, mkF, argsToLocals, Value.category]; done) | rfl
def Q_rm16 (Z : State) (v : UInt64) (h0 : Heap) (n0 : Nat) (rv : Option Value) (h : Heap) (L : List Loc) : Prop := ∃ b : Addr, rv = some (.ref b) ∧ Fr n0 L ∧ h0.size ≤ b ∧ n0 ≤ b ∧ Keep h0 h [] ∧ Exa Z h b "java/lang/Double"
set_option maxRecDepth 65536 in
set_option maxHeartbeats 40000000 in
theorem rm16 (l : Launch) (Z : State) (a0 : Array Value) (hw : ∀ d ∈ tables_1, d.before a0 Z = true) (ws : List Jvm.Cond) (v : UInt64) (h0 : Heap) (n0 : Nat) (Z0 : n0 ≤ h0.size) :
    MetFree l (⟨"java/lang/Double", "valueOf", "(D)Ljava/lang/Double;"⟩ : MethodName) (head1 (Jvm.Cond.code (⟨"java/lang/Double", "valueOf", "(D)Ljava/lang/Double;"⟩ : MethodName) jdk_117_method_4_code 2 (some (.object "java/lang/Double")) :: ws) ({ frames := 3, cells := 1, slots := 1, locals := 39 } : Room)) (fun av U => av = #[(.double v)] ∧ Z.Warmed39 U.vm ∧ U.heap = h0) (fun _ _ _ _ _ => True) (fun _ U o U' => ∃ rv L, o = .returned rv ∧ Q_rm16 Z v h0 n0 rv U'.heap L ∧ FrameEnd U o U' L ({ frames := 3, cells := 1, slots := 1, locals := 39 } : Room).cells ({ frames := 3, cells := 1, slots := 1, locals := 39 } : Room).slots) := by
  refine MetFree.of_bodySF (plainFor_of_name pn_16) hisR ?_
  intro p e s m args below meth c s₁ Bd hml0 hP hK
  obtain ⟨rfl, hZ, hh⟩ := hP
  have hx := Bd.exec
  have hby := Bd.bytes
  have hml : c.maxLocals = 2 := hml0
  have hown : s.vm.findClass "java/lang/Double" = some m.cls := findClass_of_methodNamed Bd.named
  have hnm := (name_of_methodNamed Bd.named Bd.method).1
  have X0 : Stand p l e ({ frames := 3, cells := 1, slots := 1, locals := 39 } : Room) s m #[(.double v)] below meth c s₁ [] 0 0 := Stand.of_body Bd
  have e0 : s₁.heap = h0 := by rw [← hh, Bd.state]; rfl
  have N0 := Fr.nil n0
  have pre0 : ∀ t, Steps p.tables e below (s₁.setTop (mkF m 0 #[.val (.double v), .second] [])) t → Steps p.tables e below (s₁.setTop (entryFrame m #[(.double v)] 2)) t := fun t k => castTop (ef_rm16 m v) k
  obtain ⟨T1, h1, X1, e1, E1, A1, D1, -, st1⟩ := newO X0 hx hZ hown (hw _ (List.mem_of_getElem? (i := 108) rfl)) (hw _ (List.mem_of_getElem? (i := 109) rfl)) (hw _ (List.mem_of_getElem? (i := 106) rfl)) e0 (g := (mkF m 0 #[.val (.double v), .second] [])) rfl (hb hby d16_0) (by decide) (by decide)
  obtain ⟨b1, g1⟩ : ∃ z, z = h0.size := ⟨_, rfl⟩
  rw [← g1] at A1 D1 st1
  have g_b1 : n0 ≤ b1 := Nat.le_trans Z0 (Nat.le_of_eq g1.symm)
  have sz_b1 : h0.size ≤ b1 := Nat.le_trans (Keep.refl h0 []).1 (Nat.le_of_eq g1.symm)
  have Zs1 : n0 ≤ h1.size := Nat.le_trans Z0 E1.1
  have K1 : Keep h0 h1 [] := (Keep.refl h0 []).ext E1
  have f2 : Exa Z h1 b1 "java/lang/Double" := A1
  have f3 : Fld Z h1 b1 "java/lang/Double" "value" "D" (.double (0 : UInt64)) := D1 (Or.inr (hw _ (List.mem_of_getElem? (i := 122) rfl))) (ty := .double) (by decide)
  have sg4 : ∀ target, Steps p.tables e below (T1.setTop (mkF m 5 #[.val (.double v), .second] [(.double v), (.ref b1), (.ref b1)])) target → Steps p.tables e below (T1.setTop (mkF m 3 #[.val (.double v), .second] [(.ref b1)])) target := by
    intro target kt
    show Steps p.tables e below (T1.setTop (mkF m 3 #[.val (.double v), .second] [(.ref b1)])) _
    refine XS.dup X1.here hx rfl (hb hby d16_3) rfl rfl ?_
    show Steps p.tables e below (T1.setTop (mkF m 4 #[.val (.double v), .second] [(.ref b1), (.ref b1)])) _
    refine XS.dloadN X1.here hx rfl (hb hby d16_4) rfl ?_
    exact kt
  obtain ⟨_, _, ⟨T5, L5, k5, n5⟩, -, X5, ⟨Lc5, hQ5, l5, y5, z5⟩, st5⟩ := X1.specialBack hx (y := (⟨"java/lang/Double", "<init>", "(D)V"⟩ : MethodName)) rfl hown (mvT hZ (hw _ (List.mem_of_getElem? (i := 110) rfl))) (mvT hZ (hw _ (List.mem_of_getElem? (i := 111) rfl))) (mvT hZ (hw _ (List.mem_of_getElem? (i := 113) rfl))) (by decide) (backOf (W := 1) (rm17 l Z a0 hw [] b1 v h1 n0 Zs1 f2 f3 g_b1) hZ (hw _ (List.mem_of_getElem? (i := 113) rfl)) (hw _ (List.mem_of_getElem? (i := 106) rfl)) (by decide) (by decide)) (g := (mkF m 5 #[.val (.double v), .second] [(.double v), (.ref b1), (.ref b1)])) rfl (by rw [hml]; rfl) (Steps.refl _) (a := b1) (argsL := [(.double v)]) (rest := [(.ref b1)]) (lenOf pd_7 rfl) rfl (by show 2 * 0 + _ ≤ _; exact Nat.le_of_eq rfl) (hb hby d16_5) (fun _ _ => ⟨rfl, e1, (by decide : 1 + 0 ≤ _), (by decide : 1 + 0 ≤ _)⟩)
  dsimp only [Pt.U, Pt.locs, Pt.cells, Pt.slots] at X5 l5 y5 z5 st5 hQ5
  subst l5 y5 z5
  obtain ⟨rfl, N5q, c5_0, c5_1⟩ := hQ5
  have N5 := Fr.app N0 N5q
  have Zs5 : n0 ≤ T5.heap.size := Nat.le_trans Zs1 c5_0.1
  have K5 : Keep h0 T5.heap [] := K1.trans c5_0 (allS (Or.inr sz_b1) all0)
  have f6 : Exa Z T5.heap b1 "java/lang/Double" := c5_1
  obtain ⟨fs, hr, hrun, hended, hW, hsame⟩ := X5.leave (v := some (.ref b1)) (fun h => by rw [Bd.returns] at h; cases h)
  refine ⟨_, _, pre0 _ ?_, hrun, hended, _, _, rfl, ?_, ⟨_, rfl⟩, hW, hsame.mono (by decide) (by decide)⟩
  · show Steps p.tables e below (s₁.setTop (mkF m 0 #[.val (.double v), .second] [])) _
    refine st1 _ ?_
    refine sg4 _ ?_
    refine st5.trans ?_
    show Steps p.tables e below (T5.setTop (mkF m 8 #[.val (.double v), .second] [(.ref b1)])) _
    exact retOut X5 hx Bd.returns rfl (Or.inr (Or.inr (Or.inr (Or.inr ⟨rfl, rfl, rfl⟩)))) (hb hby d16_8) hr
  · show Q_rm16 Z v h0 n0 _ T5.heap _
    exact ⟨b1, rfl, N5, sz_b1, g_b1, K5, f6⟩
theorem d23_0 : decode jdk_29_method_65_code 0 = .ok (.iload_n 0, 1) := by decide +kernel
theorem d23_1 : decode jdk_29_method_65_code 1 = .ok (.iload_n 1, 1) := by decide +kernel
theorem d23_2 : decode jdk_29_method_65_code 2 = .ok (.if_icmp .lt 7, 3) := by decide +kernel
theorem d23_5 : decode jdk_29_method_65_code 5 = .ok (.iload_n 0, 1) := by decide +kernel
theorem d23_6 : decode jdk_29_method_65_code 6 = .ok (.goto 4, 3) := by decide +kernel
theorem d23_10 : decode jdk_29_method_65_code 10 = .ok (.ireturn, 1) := by decide +kernel
theorem ef_rm23 (m : MethodId) (x0 : Int32) (x1 : Int32) : entryFrame m #[(.int x0), (.int x1)] 2 = mkF m 0 #[.val (.int x0), .val (.int x1)] [] := by first | (simp [entryFrame, mkF, argsToLocals, Value.category]; done) | rfl
def Q_rm23 (Z : State) (x : Int32) (y : Int32) (h0 : Heap) (n0 : Nat) (rv : Option Value) (h : Heap) (L : List Loc) : Prop := rv = some (.int x) ∧ Fr n0 L ∧ h = h0
set_option maxRecDepth 65536 in
set_option maxHeartbeats 40000000 in
theorem rm23 (l : Launch) (Z : State) (a0 : Array Value) (hw : ∀ d ∈ tables_1, d.before a0 Z = true) (ws : List Jvm.Cond) (x : Int32) (y : Int32) (h0 : Heap) (n0 : Nat) (Z0 : n0 ≤ h0.size) (hlt : ¬ (x < y)) :
    MetFree l (⟨"java/lang/Math", "max", "(II)I"⟩ : MethodName) (head1 (Jvm.Cond.code (⟨"java/lang/Math", "max", "(II)I"⟩ : MethodName) jdk_29_method_65_code 2 (some .int) :: ws) ({ frames := 0, cells := 0, slots := 0, locals := 0 } : Room)) (fun av U => av = #[(.int x), (.int y)] ∧ Z.Warmed39 U.vm ∧ U.heap = h0) (fun _ _ _ _ _ => True) (fun _ U o U' => ∃ rv L, o = .returned rv ∧ Q_rm23 Z x y h0 n0 rv U'.heap L ∧ FrameEnd U o U' L ({ frames := 0, cells := 0, slots := 0, locals := 0 } : Room).cells ({ frames := 0, cells := 0, slots := 0, locals := 0 } : Room).slots) := by
  refine MetFree.of_bodySF (Jvm.Free.JP.mathPlain rfl (by decide +kernel)) hisR ?_
  intro p e s m args below meth c s₁ Bd hml0 hP hK
  obtain ⟨rfl, hZ, hh⟩ := hP
  have hx := Bd.exec
  have hby := Bd.bytes
  have hml : c.maxLocals = 2 := hml0
  have hown : s.vm.findClass "java/lang/Math" = some m.cls := findClass_of_methodNamed Bd.named
  have hnm := (name_of_methodNamed Bd.named Bd.method).1
  have X0 : Stand p l e ({ frames := 0, cells := 0, slots := 0, locals := 0 } : Room) s m #[(.int x), (.int y)] below meth c s₁ [] 0 0 := Stand.of_body Bd
  have e0 : s₁.heap = h0 := by rw [← hh, Bd.state]; rfl
  have N0 := Fr.nil n0
  have pre0 : ∀ t, Steps p.tables e below (s₁.setTop (mkF m 0 #[.val (.int x), .val (.int y)] [])) t → Steps p.tables e below (s₁.setTop (entryFrame m #[(.int x), (.int y)] 2)) t := fun t k => castTop (ef_rm23 m x y) k
  have sg1 : ∀ target, Steps p.tables e below (s₁.setTop (mkF m 10 #[.val (.int x), .val (.int y)] [(.int x)])) target → Steps p.tables e below (s₁.setTop (mkF m 0 #[.val (.int x), .val (.int y)] [])) target := by
    intro target kt
    show Steps p.tables e below (s₁.setTop (mkF m 0 #[.val (.int x), .val (.int y)] [])) _
    refine XS.iloadN X0.here hx rfl (hb hby d23_0) rfl ?_
    show Steps p.tables e below (s₁.setTop (mkF m 1 #[.val (.int x), .val (.int y)] [(.int x)])) _
    refine XS.iloadN X0.here hx rfl (hb hby d23_1) rfl ?_
    show Steps p.tables e below (s₁.setTop (mkF m 2 #[.val (.int x), .val (.int y)] [(.int y), (.int x)])) _
    refine XS.icmpNo X0.here hx rfl (hb hby d23_2) rfl (flt (hlt : ¬ (x < y))).1 ?_
    show Steps p.tables e below (s₁.setTop (mkF m 5 #[.val (.int x), .val (.int y)] [])) _
    refine XS.iloadN X0.here hx rfl (hb hby d23_5) rfl ?_
    show Steps p.tables e below (s₁.setTop (mkF m 6 #[.val (.int x), .val (.int y)] [(.int x)])) _
    refine XS.goto X0.here hx rfl (pc0 := 6) (pc' := 10) rfl (hb hby d23_6) (by decide) (by decide) ?_
    exact kt
  obtain ⟨fs, hr, hrun, hended, hW, hsame⟩ := X0.leave (v := some (.int x)) (fun h => by rw [Bd.returns] at h; cases h)
  refine ⟨_, _, pre0 _ ?_, hrun, hended, _, _, rfl, ?_, ⟨_, rfl⟩, hW, hsame.mono (by decide) (by decide)⟩
  · show Steps p.tables e below (s₁.setTop (mkF m 0 #[.val (.int x), .val (.int y)] [])) _
    refine sg1 _ ?_
    show Steps p.tables e below (s₁.setTop (mkF m 10 #[.val (.int x), .val (.int y)] [(.int x)])) _
    exact retI X0 hx Bd.returns (hb hby d23_10) hr
  · show Q_rm23 Z x y h0 n0 _ s₁.heap _
    rw [e0]
    exact ⟨rfl, N0, rfl⟩
theorem d22_0 : decode jdk_38_method_6_code 0 = .ok (.aload_n 0, 1) := by decide +kernel
theorem d22_1 : decode jdk_38_method_6_code 1 = .ok (.getfield 9, 3) := by decide +kernel
theorem d22_4 : decode jdk_38_method_6_code 4 = .ok (.arraylength, 1) := by decide +kernel
theorem d22_5 : decode jdk_38_method_6_code 5 = .ok (.istore_n 2, 1) := by decide +kernel
theorem d22_6 : decode jdk_38_method_6_code 6 = .ok (.iload_n 2, 1) := by decide +kernel
theorem d22_7 : decode jdk_38_method_6_code 7 = .ok (.ifCond .gt 13, 3) := by decide +kernel
theorem d22_10 : decode jdk_38_method_6_code 10 = .ok (.aload_n 0, 1) := by decide +kernel
theorem d22_11 : decode jdk_38_method_6_code 11 = .ok (.getfield 9, 3) := by decide +kernel
theorem d22_14 : decode jdk_38_method_6_code 14 = .ok (.getstatic 39, 3) := by decide +kernel
theorem d22_17 : decode jdk_38_method_6_code 17 = .ok (.if_acmp .eq 28, 3) := by decide +kernel
theorem d22_45 : decode jdk_38_method_6_code 45 = .ok (.aload_n 0, 1) := by decide +kernel
theorem d22_46 : decode jdk_38_method_6_code 46 = .ok (.bipush 10, 2) := by decide +kernel
theorem d22_48 : decode jdk_38_method_6_code 48 = .ok (.iload_n 1, 1) := by decide +kernel
theorem d22_49 : decode jdk_38_method_6_code 49 = .ok (.invokestatic 79, 3) := by decide +kernel
theorem pd_10 : parseMethodDescriptor "(II)I" = some ⟨[.int, .int], some .int⟩ := by decide +kernel
theorem d22_52 : decode jdk_38_method_6_code 52 = .ok (.anewarray 7, 3) := by decide +kernel
theorem d22_55 : decode jdk_38_method_6_code 55 = .ok (.dup_x1, 1) := by decide +kernel
theorem d22_56 : decode jdk_38_method_6_code 56 = .ok (.putfield 9, 3) := by decide +kernel
theorem d22_59 : decode jdk_38_method_6_code 59 = .ok (.areturn, 1) := by decide +kernel
theorem pn_22 : plainName "java/util/ArrayList" = true := by first | (simp [plainName, overriddenIn]; done) | decide +kernel
theorem ef_rm22 (m : MethodId) (x0 : Addr) (x1 : Int32) : entryFrame m #[(.ref x0), (.int x1)] 4 = mkF m 0 #[.val (.ref x0), .val (.int x1), .unset, .unset] [] := by first | (simp [entryFrame, mkF, argsToLocals, Value.category]; done) | rfl
def Q_rm22 (Z : State) (a : Addr) (n : Int32) (d0 : Addr) (kd : ClassId) (h0 : Heap) (n0 : Nat) (rv : Option Value) (h : Heap) (L : List Loc) : Prop := ∃ b : Addr, ∃ kb : ClassId, rv = some (.ref b) ∧ Fr n0 L ∧ h0.size ≤ b ∧ n0 ≤ b ∧ Keep h0 h [a] ∧ Exa Z h a "java/util/ArrayList" ∧ Fld Z h a "java/util/ArrayList" "size" "I" (.int (0 : Int32)) ∧ Arv Z h b kb own_OT (10 : Int32) [] .null ∧ Ovr Z kb "java/lang/Object"
set_option maxRecDepth 65536 in
set_option maxHeartbeats 40000000 in
theorem rm22 (l : Launch) (Z : State) (a0 : Array Value) (hw : ∀ d ∈ tables_1, d.before a0 Z = true) (ws : List Jvm.Cond) (a : Addr) (n : Int32) (d0 : Addr) (kd : ClassId) (h0 : Heap) (n0 : Nat) (Z0 : n0 ≤ h0.size) (E_a : Exa Z h0 a "java/util/ArrayList") (F2 : Fld Z h0 a "java/util/ArrayList" "elementData" "[Ljava/lang/Object;" (.ref d0)) (F3 : Fld Z h0 a "java/util/ArrayList" "size" "I" (.int (0 : Int32))) (g_a : n0 ≤ a) (O : Old Z n0 h0) (S0 : Sta Z Z.heap "java/util/ArrayList" "DEFAULTCAPACITY_EMPTY_ELEMENTDATA" "[Ljava/lang/Object;" (.ref d0)) (V0 : Arv Z Z.heap d0 kd own_OT (0 : Int32) [] .null) (hn : ¬ ((10 : Int32) < n)) :
    MetFree l (⟨"java/util/ArrayList", "grow", "(I)[Ljava/lang/Object;"⟩ : MethodName) (head1 (Jvm.Cond.code (⟨"java/util/ArrayList", "grow", "(I)[Ljava/lang/Object;"⟩ : MethodName) jdk_38_method_6_code 4 (some (.array (.object "java/lang/Object"))) :: ws) ({ frames := 1, cells := 1, slots := 10, locals := 14 } : Room)) (fun av U => av = #[(.ref a), (.int n)] ∧ Z.Warmed39 U.vm ∧ U.heap = h0) (fun _ _ _ _ _ => True) (fun _ U o U' => ∃ rv L, o = .returned rv ∧ Q_rm22 Z a n d0 kd h0 n0 rv U'.heap L ∧ FrameEnd U o U' L ({ frames := 1, cells := 1, slots := 10, locals := 14 } : Room).cells ({ frames := 1, cells := 1, slots := 10, locals := 14 } : Room).slots) := by
  refine MetFree.of_bodySF (plainFor_of_name pn_22) hisR ?_
  intro p e s m args below meth c s₁ Bd hml0 hP hK
  obtain ⟨rfl, hZ, hh⟩ := hP
  have hx := Bd.exec
  have hby := Bd.bytes
  have hml : c.maxLocals = 4 := hml0
  have hown : s.vm.findClass "java/util/ArrayList" = some m.cls := findClass_of_methodNamed Bd.named
  have hnm := (name_of_methodNamed Bd.named Bd.method).1
  have X0 : Stand p l e ({ frames := 1, cells := 1, slots := 10, locals := 14 } : Room) s m #[(.ref a), (.int n)] below meth c s₁ [] 0 0 := Stand.of_body Bd
  have e0 : s₁.heap = h0 := by rw [← hh, Bd.state]; rfl
  have N0 := Fr.nil n0
  have pre0 : ∀ t, Steps p.tables e below (s₁.setTop (mkF m 0 #[.val (.ref a), .val (.int n), .unset, .unset] [])) t → Steps p.tables e below (s₁.setTop (entryFrame m #[(.ref a), (.int n)] 4)) t := fun t k => castTop (ef_rm22 m a n) k
  have sg1 : ∀ target, Steps p.tables e below (s₁.setTop (mkF m 1 #[.val (.ref a), .val (.int n), .unset, .unset] [(.ref a)])) target → Steps p.tables e below (s₁.setTop (mkF m 0 #[.val (.ref a), .val (.int n), .unset, .unset] [])) target := by
    intro target kt
    show Steps p.tables e below (s₁.setTop (mkF m 0 #[.val (.ref a), .val (.int n), .unset, .unset] [])) _
    refine XS.aloadN X0.here hx rfl (hb hby d22_0) rfl rfl ?_
    exact kt
  obtain ⟨T2, X2, e2, st2⟩ := getF X0 hx hZ hown (host := "") (Or.inl (hw _ (List.mem_of_getElem? (i := 79) rfl))) Via.refl e0 F2 (g := (mkF m 1 #[.val (.ref a), .val (.int n), .unset, .unset] [(.ref a)])) rfl rfl (hb hby d22_1)
  obtain ⟨cl3, Ar3, -, S3, M3, -, -⟩ := id (V0.ext O.2)
  have sg4 : ∀ target, Steps p.tables e below (T2.setTop (mkF m 11 #[.val (.ref a), .val (.int n), .val (.int (0 : Int32)), .unset] [(.ref a)])) target → Steps p.tables e below (T2.setTop (mkF m 4 #[.val (.ref a), .val (.int n), .unset, .unset] [(.ref d0)])) target := by
    intro target kt
    show Steps p.tables e below (T2.setTop (mkF m 4 #[.val (.ref a), .val (.int n), .unset, .unset] [(.ref d0)])) _
    refine X2.arraylength hx (by rw [e2]; exact Ar3.1) (State.isArrayOf_alike hZ.alike Ar3.2.1) (g := (mkF m 4 #[.val (.ref a), .val (.int n), .unset, .unset] [(.ref d0)])) rfl rfl (hb hby d22_4) _ ?_
    rw [len_of S3 M3]
    show Steps p.tables e below (T2.setTop (mkF m 5 #[.val (.ref a), .val (.int n), .unset, .unset] [(.int (0 : Int32))])) _
    refine XS.istoreN X2.here hx rfl (hb hby d22_5) rfl (l' := #[.val (.ref a), .val (.int n), .val (.int (0 : Int32)), .unset]) rfl ?_
    show Steps p.tables e below (T2.setTop (mkF m 6 #[.val (.ref a), .val (.int n), .val (.int (0 : Int32)), .unset] [])) _
    refine XS.iloadN X2.here hx rfl (hb hby d22_6) rfl ?_
    show Steps p.tables e below (T2.setTop (mkF m 7 #[.val (.ref a), .val (.int n), .val (.int (0 : Int32)), .unset] [(.int (0 : Int32))])) _
    refine XS.ifNo X2.here hx rfl (hb hby d22_7) rfl ((if0 _ _).trans (flt (by decide : ¬ ((0 : Int32) < (0 : Int32)))).2.2.1) ?_
    show Steps p.tables e below (T2.setTop (mkF m 10 #[.val (.ref a), .val (.int n), .val (.int (0 : Int32)), .unset] [])) _
    refine XS.aloadN X2.here hx rfl (hb hby d22_10) rfl rfl ?_
    exact kt
  obtain ⟨T5, X5, e5, st5⟩ := getF X2 hx hZ hown (host := "") (Or.inl (hw _ (List.mem_of_getElem? (i := 79) rfl))) Via.refl e2 F2 (g := (mkF m 11 #[.val (.ref a), .val (.int n), .val (.int (0 : Int32)), .unset] [(.ref a)])) rfl rfl (hb hby d22_11)
  obtain ⟨T6, X6, e6, st6⟩ := getS2 X5 hx hZ hown (host := "") (Or.inl (hw _ (List.mem_of_getElem? (i := 78) rfl))) Via.refl e5 (S0.ext O.2) (g := (mkF m 14 #[.val (.ref a), .val (.int n), .val (.int (0 : Int32)), .unset] [(.ref d0)])) rfl (hb hby d22_14)
  have sg7 : ∀ target, Steps p.tables e below (T6.setTop (mkF m 49 #[.val (.ref a), .val (.int n), .val (.int (0 : Int32)), .unset] [(.int n), (.int (10 : Int32)), (.ref a)])) target → Steps p.tables e below (T6.setTop (mkF m 17 #[.val (.ref a), .val (.int n), .val (.int (0 : Int32)), .unset] [(.ref d0), (.ref d0)])) target := by
    intro target kt
    show Steps p.tables e below (T6.setTop (mkF m 17 #[.val (.ref a), .val (.int n), .val (.int (0 : Int32)), .unset] [(.ref d0), (.ref d0)])) _
    refine acmp X6 hx rfl (x := (.ref d0)) (y := (.ref d0)) (pc0 := 17) (pc' := 45) (same := true) rfl rfl rfl (hb hby d22_17) rfl (decide_eq_true rfl) (by decide) (by decide) ?_
    show Steps p.tables e below (T6.setTop (mkF m 45 #[.val (.ref a), .val (.int n), .val (.int (0 : Int32)), .unset] [])) _
    refine XS.aloadN X6.here hx rfl (hb hby d22_45) rfl rfl ?_
    show Steps p.tables e below (T6.setTop (mkF m 46 #[.val (.ref a), .val (.int n), .val (.int (0 : Int32)), .unset] [(.ref a)])) _
    refine XS.bipush X6.here hx rfl (hb hby d22_46) ?_
    show Steps p.tables e below (T6.setTop (mkF m 48 #[.val (.ref a), .val (.int n), .val (.int (0 : Int32)), .unset] [(.int (10 : Int32)), (.ref a)])) _
    refine XS.iloadN X6.here hx rfl (hb hby d22_48) rfl ?_
    exact kt
  obtain ⟨_, _, ⟨T8, L8, k8, n8⟩, -, X8, ⟨Lc8, hQ8, l8, y8, z8⟩, st8⟩ := Jvm.LawKit.callS X6 hx (y := (⟨"java/lang/Math", "max", "(II)I"⟩ : MethodName)) hown (mvT hZ (hw _ (List.mem_of_getElem? (i := 151) rfl))) (mvT hZ (hw _ (List.mem_of_getElem? (i := 152) rfl))) (mvT hZ (hw _ (List.mem_of_getElem? (i := 153) rfl))) (mvT hZ (hw _ (List.mem_of_getElem? (i := 154) rfl))) (by decide) (backOf (W := 1) (rm23 l Z a0 hw [] (10 : Int32) n h0 n0 Z0 hn) hZ (hw _ (List.mem_of_getElem? (i := 154) rfl)) (hw _ (List.mem_of_getElem? (i := 153) rfl)) (by decide) (by decide)) (g := (mkF m 49 #[.val (.ref a), .val (.int n), .val (.int (0 : Int32)), .unset] [(.int n), (.int (10 : Int32)), (.ref a)])) rfl (by rw [hml]; rfl) (argsL := [(.int (10 : Int32)), (.int n)]) (rest := [(.ref a)]) (lenOf pd_10 rfl) rfl (by show 2 * 0 + _ ≤ _; exact Nat.le_of_eq rfl) (hb hby d22_49) (fun _ _ => ⟨rfl, e6, (by decide : 0 + 0 ≤ _), (by decide : 0 + 0 ≤ _)⟩)
  dsimp only [Pt.U, Pt.locs, Pt.cells, Pt.slots] at X8 l8 y8 z8 st8 hQ8
  subst l8 y8 z8
  obtain ⟨rfl, N8q, c8_0⟩ := hQ8
  have N8 := Fr.app N0 N8q
  obtain ⟨T9, h9, k9, X9, e9, E9, A9, O9, st9⟩ := newR X8 hx hZ hown (hw _ (List.mem_of_getElem? (i := 155) rfl)) (hw _ (List.mem_of_getElem? (i := 156) rfl)) c8_0 (g := (mkF m 52 #[.val (.ref a), .val (.int n), .val (.int (0 : Int32)), .unset] [(.int (10 : Int32)), (.ref a)])) rfl (hb hby d22_52) rfl (by decide) (cap := 10) (by decide) (by decide) (by decide) (by decide)
  obtain ⟨b9, g9⟩ : ∃ z, z = h0.size := ⟨_, rfl⟩
  rw [← g9] at A9 st9
  have g_b9 : n0 ≤ b9 := Nat.le_trans Z0 (Nat.le_of_eq g9.symm)
  have sz_b9 : h0.size ≤ b9 := Nat.le_trans (Keep.refl h0 [a]).1 (Nat.le_of_eq g9.symm)
  have ne_a_b9 : a ≠ b9 := Nat.ne_of_lt (Nat.lt_of_lt_of_le E_a.lt (Nat.le_of_eq g9.symm))
  have Zs9 : n0 ≤ h9.size := Nat.le_trans Z0 E9.1
  have K9 : Keep h0 h9 [a] := (Keep.refl h0 [a]).ext E9
  have f10 : Exa Z h9 a "java/util/ArrayList" := E_a.ext E9
  have f11 : Fld Z h9 a "java/util/ArrayList" "elementData" "[Ljava/lang/Object;" (.ref d0) := F2.ext E9
  have f12 : Fld Z h9 a "java/util/ArrayList" "size" "I" (.int (0 : Int32)) := F3.ext E9
  have f13 : Old Z n0 h9 := O.ext E9
  have f14 : Arv Z h9 b9 k9 own_OT (10 : Int32) [] .null := Arv.new A9 (by decide)
  have sg15 : ∀ target, Steps p.tables e below (T9.setTop (mkF m 56 #[.val (.ref a), .val (.int n), .val (.int (0 : Int32)), .unset] [(.ref b9), (.ref a), (.ref b9)])) target → Steps p.tables e below (T9.setTop (mkF m 55 #[.val (.ref a), .val (.int n), .val (.int (0 : Int32)), .unset] [(.ref b9), (.ref a)])) target := by
    intro target kt
    show Steps p.tables e below (T9.setTop (mkF m 55 #[.val (.ref a), .val (.int n), .val (.int (0 : Int32)), .unset] [(.ref b9), (.ref a)])) _
    refine XS.dupX1 X9.here hx rfl (hb hby d22_55) rfl rfl rfl ?_
    exact kt
  obtain ⟨T16, h16, X16, e16, W16, st16⟩ := putF X9 hx hZ hown (host := "") (Or.inl (hw _ (List.mem_of_getElem? (i := 79) rfl))) Via.refl e9 f11 f10 (Or.inl (hw _ (List.mem_of_getElem? (i := 80) rfl))) (hw _ (List.mem_of_getElem? (i := 58) rfl)) (ty := (.array (.object "java/lang/Object"))) (by decide) rfl rfl (g := (mkF m 56 #[.val (.ref a), .val (.int n), .val (.int (0 : Int32)), .unset] [(.ref b9), (.ref a), (.ref b9)])) rfl rfl (hb hby d22_56)
  have N16 := Fr.snoc X16 N8 g_a
  have Zs16 : n0 ≤ h16.size := by rw [W16.size]; exact Zs9
  have K16 : Keep h0 h16 [a] := K9.wr W16 (Or.inl (List.mem_of_getElem? (i := 0) rfl))
  have f17 : Exa Z h16 a "java/util/ArrayList" := f10.wr W16
  have f18 : Fld Z h16 a "java/util/ArrayList" "size" "I" (.int (0 : Int32)) := f12.other W16 (Or.inr (slot_ne (Or.inl (hw _ (List.mem_of_getElem? (i := 135) rfl))) (Or.inl (hw _ (List.mem_of_getElem? (i := 80) rfl))) (by decide) (t := .int) (t' := (.array (.object "java/lang/Object"))) (by decide) (by decide)))
  have f19 : Old Z n0 h16 := f13.wr W16 g_a
  have f20 : Arv Z h16 b9 k9 own_OT (10 : Int32) [] .null := f14.other W16 (Ne.symm ne_a_b9)
  have f21 : Fld Z h16 a "java/util/ArrayList" "elementData" "[Ljava/lang/Object;" (.ref b9) := f11.same W16
  obtain ⟨fs, hr, hrun, hended, hW, hsame⟩ := X16.leave (v := some (.ref b9)) (fun h => by rw [Bd.returns] at h; cases h)
  refine ⟨_, _, pre0 _ ?_, hrun, hended, _, _, rfl, ?_, ⟨_, rfl⟩, hW, hsame.mono (by decide) (by decide)⟩
  · show Steps p.tables e below (s₁.setTop (mkF m 0 #[.val (.ref a), .val (.int n), .unset, .unset] [])) _
    refine sg1 _ ?_
    refine st2 _ ?_
    refine sg4 _ ?_
    refine st5 _ ?_
    refine st6 _ ?_
    refine sg7 _ ?_
    refine st8 _ ?_
    refine st9 _ ?_
    refine sg15 _ ?_
    refine st16 _ ?_
    show Steps p.tables e below (T16.setTop (mkF m 59 #[.val (.ref a), .val (.int n), .val (.int (0 : Int32)), .unset] [(.ref b9)])) _
    exact retOut X16 hx Bd.returns rfl (Or.inr (Or.inr (Or.inr (Or.inr ⟨rfl, rfl, rfl⟩)))) (hb hby d22_59) hr
  · show Q_rm22 Z a n d0 kd h0 n0 _ T16.heap _
    rw [e16]
    exact ⟨b9, k9, rfl, N16, sz_b9, g_b9, K16, f17, f18, f20, O9⟩
theorem d21_0 : decode jdk_38_method_7_code 0 = .ok (.aload_n 0, 1) := by decide +kernel
theorem d21_1 : decode jdk_38_method_7_code 1 = .ok (.aload_n 0, 1) := by decide +kernel
theorem d21_2 : decode jdk_38_method_7_code 2 = .ok (.getfield 48, 3) := by decide +kernel
theorem d21_5 : decode jdk_38_method_7_code 5 = .ok (.iconst 1, 1) := by decide +kernel
theorem d21_6 : decode jdk_38_method_7_code 6 = .ok (.iadd, 1) := by decide +kernel
theorem d21_7 : decode jdk_38_method_7_code 7 = .ok (.invokevirtual 69, 3) := by decide +kernel
theorem pd_9 : parseMethodDescriptor "(I)[Ljava/lang/Object;" = some ⟨[.int], some (.array (.object "java/lang/Object"))⟩ := by decide +kernel
theorem d21_10 : decode jdk_38_method_7_code 10 = .ok (.areturn, 1) := by decide +kernel
theorem pn_21 : plainName "java/util/ArrayList" = true := by first | (simp [plainName, overriddenIn]; done) | decide +kernel
theorem ef_rm21 (m : MethodId) (x0 : Addr) : entryFrame m #[(.ref x0)] 1 = mkF m 0 #[.val (.ref x0)] [] := by first | (simp [entryFrame, mkF, argsToLocals, Value.category]; done) | rfl
def Q_rm21 (Z : State) (a : Addr) (d0 : Addr) (kd : ClassId) (h0 : Heap) (n0 : Nat) (rv : Option Value) (h : Heap) (L : List Loc) : Prop := ∃ b : Addr, ∃ kb : ClassId, rv = some (.ref b) ∧ Fr n0 L ∧ h0.size ≤ b ∧ n0 ≤ b ∧ Keep h0 h [a] ∧ Exa Z h a "java/util/ArrayList" ∧ Fld Z h a "java/util/ArrayList" "size" "I" (.int (0 : Int32)) ∧ Arv Z h b kb own_OT (10 : Int32) [] .null ∧ Ovr Z kb "java/lang/Object"
set_option maxRecDepth 65536 in
set_option maxHeartbeats 40000000 in
theorem rm21 (l : Launch) (Z : State) (a0 : Array Value) (hw : ∀ d ∈ tables_1, d.before a0 Z = true) (ws : List Jvm.Cond) (a : Addr) (d0 : Addr) (kd : ClassId) (h0 : Heap) (n0 : Nat) (Z0 : n0 ≤ h0.size) (E_a : Exa Z h0 a "java/util/ArrayList") (F2 : Fld Z h0 a "java/util/ArrayList" "elementData" "[Ljava/lang/Object;" (.ref d0)) (F3 : Fld Z h0 a "java/util/ArrayList" "size" "I" (.int (0 : Int32))) (g_a : n0 ≤ a) (O : Old Z n0 h0) (S0 : Sta Z Z.heap "java/util/ArrayList" "DEFAULTCAPACITY_EMPTY_ELEMENTDATA" "[Ljava/lang/Object;" (.ref d0)) (V0 : Arv Z Z.heap d0 kd own_OT (0 : Int32) [] .null) :
    MetFree l (⟨"java/util/ArrayList", "grow", "()[Ljava/lang/Object;"⟩ : MethodName) (head1 (Jvm.Cond.code (⟨"java/util/ArrayList", "grow", "()[Ljava/lang/Object;"⟩ : MethodName) jdk_38_method_7_code 1 (some (.array (.object "java/lang/Object"))) :: ws) ({ frames := 2, cells := 1, slots := 10, locals := 29 } : Room)) (fun av U => av = #[(.ref a)] ∧ Z.Warmed39 U.vm ∧ U.heap = h0) (fun _ _ _ _ _ => True) (fun _ U o U' => ∃ rv L, o = .returned rv ∧ Q_rm21 Z a d0 kd h0 n0 rv U'.heap L ∧ FrameEnd U o U' L ({ frames := 2, cells := 1, slots := 10, locals := 29 } : Room).cells ({ frames := 2, cells := 1, slots := 10, locals := 29 } : Room).slots) := by
  refine MetFree.of_bodySF (plainFor_of_name pn_21) hisR ?_
  intro p e s m args below meth c s₁ Bd hml0 hP hK
  obtain ⟨rfl, hZ, hh⟩ := hP
  have hx := Bd.exec
  have hby := Bd.bytes
  have hml : c.maxLocals = 1 := hml0
  have hown : s.vm.findClass "java/util/ArrayList" = some m.cls := findClass_of_methodNamed Bd.named
  have hnm := (name_of_methodNamed Bd.named Bd.method).1
  have X0 : Stand p l e ({ frames := 2, cells := 1, slots := 10, locals := 29 } : Room) s m #[(.ref a)] below meth c s₁ [] 0 0 := Stand.of_body Bd
  have e0 : s₁.heap = h0 := by rw [← hh, Bd.state]; rfl
  have N0 := Fr.nil n0
  have pre0 : ∀ t, Steps p.tables e below (s₁.setTop (mkF m 0 #[.val (.ref a)] [])) t → Steps p.tables e below (s₁.setTop (entryFrame m #[(.ref a)] 1)) t := fun t k => castTop (ef_rm21 m a) k
  have sg1 : ∀ target, Steps p.tables e below (s₁.setTop (mkF m 2 #[.val (.ref a)] [(.ref a), (.ref a)])) target → Steps p.tables e below (s₁.setTop (mkF m 0 #[.val (.ref a)] [])) target := by
    intro target kt
    show Steps p.tables e below (s₁.setTop (mkF m 0 #[.val (.ref a)] [])) _
    refine XS.aloadN X0.here hx rfl (hb hby d21_0) rfl rfl ?_
    show Steps p.tables e below (s₁.setTop (mkF m 1 #[.val (.ref a)] [(.ref a)])) _
    refine XS.aloadN X0.here hx rfl (hb hby d21_1) rfl rfl ?_
    exact kt
  obtain ⟨T2, X2, e2, st2⟩ := getF X0 hx hZ hown (host := "") (Or.inl (hw _ (List.mem_of_getElem? (i := 134) rfl))) Via.refl e0 F3 (g := (mkF m 2 #[.val (.ref a)] [(.ref a), (.ref a)])) rfl rfl (hb hby d21_2)
  have sg3 : ∀ target, Steps p.tables e below (T2.setTop (mkF m 7 #[.val (.ref a)] [(.int ((0 : Int32) + (1 : Int32))), (.ref a)])) target → Steps p.tables e below (T2.setTop (mkF m 5 #[.val (.ref a)] [(.int (0 : Int32)), (.ref a)])) target := by
    intro target kt
    show Steps p.tables e below (T2.setTop (mkF m 5 #[.val (.ref a)] [(.int (0 : Int32)), (.ref a)])) _
    refine XS.iconst X2.here hx rfl (hb hby d21_5) ?_
    show Steps p.tables e below (T2.setTop (mkF m 6 #[.val (.ref a)] [(.int (1 : Int32)), (.int (0 : Int32)), (.ref a)])) _
    refine XS.iadd X2.here hx rfl (hb hby d21_6) rfl ?_
    exact kt
  obtain ⟨cq4, q4, q4'⟩ := E_a.cell
  obtain ⟨_, _, ⟨T4, L4, k4, n4⟩, -, X4, ⟨Lc4, hQ4, l4, y4, z4⟩, st4⟩ := X2.privateBack hx (y := (⟨"java/util/ArrayList", "grow", "(I)[Ljava/lang/Object;"⟩ : MethodName)) hown (mvT hZ (hw _ (List.mem_of_getElem? (i := 146) rfl))) (mvT hZ (hw _ (List.mem_of_getElem? (i := 147) rfl))) (mvT hZ (hw _ (List.mem_of_getElem? (i := 149) rfl))) (Cond.privateMethod_at (mvP hZ (hw _ (List.mem_of_getElem? (i := 148) rfl)) (args := #[]))) (mvT hZ (hw _ (List.mem_of_getElem? (i := 150) rfl))) (by decide) (backOf (W := 0) (rm22 l Z a0 hw [] a ((0 : Int32) + (1 : Int32)) d0 kd h0 n0 Z0 E_a F2 F3 g_a O S0 V0 (by decide)) hZ (hw _ (List.mem_of_getElem? (i := 150) rfl)) (hw _ (List.mem_of_getElem? (i := 59) rfl)) (by decide) (by decide)) (g := (mkF m 7 #[.val (.ref a)] [(.int ((0 : Int32) + (1 : Int32))), (.ref a)])) rfl (by rw [hml]; rfl) (Steps.refl _) (a := a) (by rw [e2]; exact q4) q4' (argsL := [(.int ((0 : Int32) + (1 : Int32)))]) (rest := []) (lenOf pd_9 rfl) rfl (by show 2 * 0 + _ ≤ _; exact Nat.le_of_eq rfl) (hb hby d21_7) (fun _ _ => ⟨rfl, e2, (by decide : 0 + 1 ≤ _), (by decide : 0 + 10 ≤ _)⟩)
  dsimp only [Pt.U, Pt.locs, Pt.cells, Pt.slots] at X4 l4 y4 z4 st4 hQ4
  subst l4 y4 z4
  obtain ⟨b_4, kb_4, rfl, N4q, c4_0, c4_1, c4_2, c4_3, c4_4, c4_5, c4_6⟩ := hQ4
  have N4 := Fr.app N0 N4q
  have Zs4 : n0 ≤ T4.heap.size := Nat.le_trans Z0 c4_2.1
  have ne_a_b_4 : a ≠ b_4 := Nat.ne_of_lt (Nat.lt_of_lt_of_le E_a.lt c4_0)
  have sz_b_4 : h0.size ≤ b_4 := Nat.le_trans (Keep.refl h0 [a]).1 c4_0
  have K4 : Keep h0 T4.heap [a] := (Keep.refl h0 [a]).trans c4_2 (allS (Or.inl (List.mem_of_getElem? (i := 0) rfl)) all0)
  have f5 : Old Z n0 T4.heap := O.keep c4_2 (allS g_a all0)
  have f6 : Exa Z T4.heap a "java/util/ArrayList" := c4_3
  have f7 : Fld Z T4.heap a "java/util/ArrayList" "size" "I" (.int (0 : Int32)) := c4_4
  have f8 : Arv Z T4.heap b_4 kb_4 own_OT (10 : Int32) [] .null := c4_5
  obtain ⟨fs, hr, hrun, hended, hW, hsame⟩ := X4.leave (v := some (.ref b_4)) (fun h => by rw [Bd.returns] at h; cases h)
  refine ⟨_, _, pre0 _ ?_, hrun, hended, _, _, rfl, ?_, ⟨_, rfl⟩, hW, hsame.mono (by decide) (by decide)⟩
  · show Steps p.tables e below (s₁.setTop (mkF m 0 #[.val (.ref a)] [])) _
    refine sg1 _ ?_
    refine st2 _ ?_
    refine sg3 _ ?_
    refine st4.trans ?_
    show Steps p.tables e below (T4.setTop (mkF m 10 #[.val (.ref a)] [(.ref b_4)])) _
    exact retOut X4 hx Bd.returns rfl (Or.inr (Or.inr (Or.inr (Or.inr ⟨rfl, rfl, rfl⟩)))) (hb hby d21_10) hr
  · show Q_rm21 Z a d0 kd h0 n0 _ T4.heap _
    exact ⟨b_4, kb_4, rfl, N4, sz_b_4, c4_1, K4, f6, f7, f8, c4_6⟩
theorem d20_0 : decode jdk_38_method_24_code 0 = .ok (.iload_n 3, 1) := by decide +kernel
theorem d20_1 : decode jdk_38_method_24_code 1 = .ok (.aload_n 2, 1) := by decide +kernel
theorem d20_2 : decode jdk_38_method_24_code 2 = .ok (.arraylength, 1) := by decide +kernel
theorem d20_3 : decode jdk_38_method_24_code 3 = .ok (.if_icmp .ne 8, 3) := by decide +kernel
theorem d20_6 : decode jdk_38_method_24_code 6 = .ok (.aload_n 0, 1) := by decide +kernel
theorem d20_7 : decode jdk_38_method_24_code 7 = .ok (.invokevirtual 129, 3) := by decide +kernel
theorem pd_5 : parseMethodDescriptor "()[Ljava/lang/Object;" = some ⟨[], some (.array (.object "java/lang/Object"))⟩ := by decide +kernel
theorem d20_10 : decode jdk_38_method_24_code 10 = .ok (.astore_n 2, 1) := by decide +kernel
theorem d20_11 : decode jdk_38_method_24_code 11 = .ok (.aload_n 2, 1) := by decide +kernel
theorem d20_12 : decode jdk_38_method_24_code 12 = .ok (.iload_n 3, 1) := by decide +kernel
theorem d20_13 : decode jdk_38_method_24_code 13 = .ok (.aload_n 1, 1) := by decide +kernel
theorem d20_14 : decode jdk_38_method_24_code 14 = .ok (.aastore, 1) := by decide +kernel
theorem d20_15 : decode jdk_38_method_24_code 15 = .ok (.aload_n 0, 1) := by decide +kernel
theorem d20_16 : decode jdk_38_method_24_code 16 = .ok (.iload_n 3, 1) := by decide +kernel
theorem d20_17 : decode jdk_38_method_24_code 17 = .ok (.iconst 1, 1) := by decide +kernel
theorem d20_18 : decode jdk_38_method_24_code 18 = .ok (.iadd, 1) := by decide +kernel
theorem d20_19 : decode jdk_38_method_24_code 19 = .ok (.putfield 48, 3) := by decide +kernel
theorem d20_22 : decode jdk_38_method_24_code 22 = .ok (.return_, 1) := by decide +kernel
theorem pn_20 : plainName "java/util/ArrayList" = true := by first | (simp [plainName, overriddenIn]; done) | decide +kernel
theorem ef_rm20 (m : MethodId) (x0 : Addr) (x1 : Addr) (x2 : Addr) : entryFrame m #[(.ref x0), (.ref x1), (.ref x2), (.int (0 : Int32))] 4 = mkF m 0 #[.val (.ref x0), .val (.ref x1), .val (.ref x2), .val (.int (0 : Int32))] [] := by first | (simp [entryFrame, mkF, argsToLocals, Value.category]; done) | rfl
def Q_rm20 (Z : State) (a : Addr) (x : Addr) (d0 : Addr) (kd : ClassId) (h0 : Heap) (n0 : Nat) (rv : Option Value) (h : Heap) (L : List Loc) : Prop := rv = none ∧ Fr n0 L ∧ Keep h0 h [a]
set_option maxRecDepth 65536 in
set_option maxHeartbeats 40000000 in
theorem rm20 (l : Launch) (Z : State) (a0 : Array Value) (hw : ∀ d ∈ tables_1, d.before a0 Z = true) (ws : List Jvm.Cond) (a : Addr) (x : Addr) (d0 : Addr) (kd : ClassId) (h0 : Heap) (n0 : Nat) (Z0 : n0 ≤ h0.size) (E_a : Exa Z h0 a "java/util/ArrayList") (F2 : Fld Z h0 a "java/util/ArrayList" "elementData" "[Ljava/lang/Object;" (.ref d0)) (F3 : Fld Z h0 a "java/util/ArrayList" "size" "I" (.int (0 : Int32))) (g_a : n0 ≤ a) (O : Old Z n0 h0) (S0 : Sta Z Z.heap "java/util/ArrayList" "DEFAULTCAPACITY_EMPTY_ELEMENTDATA" "[Ljava/lang/Object;" (.ref d0)) (V0 : Arv Z Z.heap d0 kd own_OT (0 : Int32) [] .null) (E_x : Exa Z h0 x "java/lang/Double") (ne : x ≠ a) :
    MetFree l (⟨"java/util/ArrayList", "add", "(Ljava/lang/Object;[Ljava/lang/Object;I)V"⟩ : MethodName) (head1 (Jvm.Cond.code (⟨"java/util/ArrayList", "add", "(Ljava/lang/Object;[Ljava/lang/Object;I)V"⟩ : MethodName) jdk_38_method_24_code 4 none :: ws) ({ frames := 3, cells := 1, slots := 10, locals := 41 } : Room)) (fun av U => av = #[(.ref a), (.ref x), (.ref d0), (.int (0 : Int32))] ∧ Z.Warmed39 U.vm ∧ U.heap = h0) (fun _ _ _ _ _ => True) (fun _ U o U' => ∃ rv L, o = .returned rv ∧ Q_rm20 Z a x d0 kd h0 n0 rv U'.heap L ∧ FrameEnd U o U' L ({ frames := 3, cells := 1, slots := 10, locals := 41 } : Room).cells ({ frames := 3, cells := 1, slots := 10, locals := 41 } : Room).slots) := by
  refine MetFree.of_bodySF (plainFor_of_name pn_20) hisR ?_
  intro p e s m args below meth c s₁ Bd hml0 hP hK
  obtain ⟨rfl, hZ, hh⟩ := hP
  have hx := Bd.exec
  have hby := Bd.bytes
  have hml : c.maxLocals = 4 := hml0
  have hown : s.vm.findClass "java/util/ArrayList" = some m.cls := findClass_of_methodNamed Bd.named
  have hnm := (name_of_methodNamed Bd.named Bd.method).1
  have X0 : Stand p l e ({ frames := 3, cells := 1, slots := 10, locals := 41 } : Room) s m #[(.ref a), (.ref x), (.ref d0), (.int (0 : Int32))] below meth c s₁ [] 0 0 := Stand.of_body Bd
  have e0 : s₁.heap = h0 := by rw [← hh, Bd.state]; rfl
  have N0 := Fr.nil n0
  have pre0 : ∀ t, Steps p.tables e below (s₁.setTop (mkF m 0 #[.val (.ref a), .val (.ref x), .val (.ref d0), .val (.int (0 : Int32))] [])) t → Steps p.tables e below (s₁.setTop (entryFrame m #[(.ref a), (.ref x), (.ref d0), (.int (0 : Int32))] 4)) t := fun t k => castTop (ef_rm20 m a x d0) k
  have sg2 : ∀ target, Steps p.tables e below (s₁.setTop (mkF m 2 #[.val (.ref a), .val (.ref x), .val (.ref d0), .val (.int (0 : Int32))] [(.ref d0), (.int (0 : Int32))])) target → Steps p.tables e below (s₁.setTop (mkF m 0 #[.val (.ref a), .val (.ref x), .val (.ref d0), .val (.int (0 : Int32))] [])) target := by
    intro target kt
    show Steps p.tables e below (s₁.setTop (mkF m 0 #[.val (.ref a), .val (.ref x), .val (.ref d0), .val (.int (0 : Int32))] [])) _
    refine XS.iloadN X0.here hx rfl (hb hby d20_0) rfl ?_
    show Steps p.tables e below (s₁.setTop (mkF m 1 #[.val (.ref a), .val (.ref x), .val (.ref d0), .val (.int (0 : Int32))] [(.int (0 : Int32))])) _
    refine XS.aloadN X0.here hx rfl (hb hby d20_1) rfl rfl ?_
    exact kt
  obtain ⟨cl1, Ar1, -, S1, M1, -, -⟩ := id (V0.ext O.2)
  have sg3 : ∀ target, Steps p.tables e below (s₁.setTop (mkF m 7 #[.val (.ref a), .val (.ref x), .val (.ref d0), .val (.int (0 : Int32))] [(.ref a)])) target → Steps p.tables e below (s₁.setTop (mkF m 2 #[.val (.ref a), .val (.ref x), .val (.ref d0), .val (.int (0 : Int32))] [(.ref d0), (.int (0 : Int32))])) target := by
    intro target kt
    show Steps p.tables e below (s₁.setTop (mkF m 2 #[.val (.ref a), .val (.ref x), .val (.ref d0), .val (.int (0 : Int32))] [(.ref d0), (.int (0 : Int32))])) _
    refine X0.arraylength hx (by rw [e0]; exact Ar1.1) (State.isArrayOf_alike hZ.alike Ar1.2.1) (g := (mkF m 2 #[.val (.ref a), .val (.ref x), .val (.ref d0), .val (.int (0 : Int32))] [(.ref d0), (.int (0 : Int32))])) rfl rfl (hb hby d20_2) _ ?_
    rw [len_of S1 M1]
    show Steps p.tables e below (s₁.setTop (mkF m 3 #[.val (.ref a), .val (.ref x), .val (.ref d0), .val (.int (0 : Int32))] [(.int (0 : Int32)), (.int (0 : Int32))])) _
    refine XS.icmpNo X0.here hx rfl (hb hby d20_3) rfl (teq (by decide : (0 : Int32) = (0 : Int32))).2 ?_
    show Steps p.tables e below (s₁.setTop (mkF m 6 #[.val (.ref a), .val (.ref x), .val (.ref d0), .val (.int (0 : Int32))] [])) _
    refine XS.aloadN X0.here hx rfl (hb hby d20_6) rfl rfl ?_
    exact kt
  obtain ⟨cq4, q4, q4'⟩ := E_a.cell
  obtain ⟨_, _, ⟨T4, L4, k4, n4⟩, -, X4, ⟨Lc4, hQ4, l4, y4, z4⟩, st4⟩ := X0.privateBack hx (y := (⟨"java/util/ArrayList", "grow", "()[Ljava/lang/Object;"⟩ : MethodName)) hown (mvT hZ (hw _ (List.mem_of_getElem? (i := 141) rfl))) (mvT hZ (hw _ (List.mem_of_getElem? (i := 142) rfl))) (mvT hZ (hw _ (List.mem_of_getElem? (i := 144) rfl))) (Cond.privateMethod_at (mvP hZ (hw _ (List.mem_of_getElem? (i := 143) rfl)) (args := #[]))) (mvT hZ (hw _ (List.mem_of_getElem? (i := 145) rfl))) (by decide) (backOf (W := 0) (rm21 l Z a0 hw [] a d0 kd h0 n0 Z0 E_a F2 F3 g_a O S0 V0) hZ (hw _ (List.mem_of_getElem? (i := 145) rfl)) (hw _ (List.mem_of_getElem? (i := 59) rfl)) (by decide) (by decide)) (g := (mkF m 7 #[.val (.ref a), .val (.ref x), .val (.ref d0), .val (.int (0 : Int32))] [(.ref a)])) rfl (by rw [hml]; rfl) (Steps.refl _) (a := a) (by rw [e0]; exact q4) q4' (argsL := []) (rest := []) (lenOf pd_5 rfl) rfl (by show 2 * 0 + _ ≤ _; exact Nat.le_of_eq rfl) (hb hby d20_7) (fun _ _ => ⟨rfl, e0, (by decide : 0 + 1 ≤ _), (by decide : 0 + 10 ≤ _)⟩)
  dsimp only [Pt.U, Pt.locs, Pt.cells, Pt.slots] at X4 l4 y4 z4 st4 hQ4
  subst l4 y4 z4
  obtain ⟨b_4, kb_4, rfl, N4q, c4_0, c4_1, c4_2, c4_3, c4_4, c4_5, c4_6⟩ := hQ4
  have N4 := Fr.app N0 N4q
  have Zs4 : n0 ≤ T4.heap.size := Nat.le_trans Z0 c4_2.1
  have ne_a_b_4 : a ≠ b_4 := Nat.ne_of_lt (Nat.lt_of_lt_of_le E_a.lt c4_0)
  have ne_x_b_4 : x ≠ b_4 := Nat.ne_of_lt (Nat.lt_of_lt_of_le E_x.lt c4_0)
  have sz_b_4 : h0.size ≤ b_4 := Nat.le_trans (Keep.refl h0 [a]).1 c4_0
  have K4 : Keep h0 T4.heap [a] := (Keep.refl h0 [a]).trans c4_2 (allS (Or.inl (List.mem_of_getElem? (i := 0) rfl)) all0)
  have f5 : Old Z n0 T4.heap := O.keep c4_2 (allS g_a all0)
  have f6 : Exa Z T4.heap x "java/lang/Double" := E_x.keep c4_2
  have f7 : Exa Z T4.heap a "java/util/ArrayList" := c4_3
  have f8 : Fld Z T4.heap a "java/util/ArrayList" "size" "I" (.int (0 : Int32)) := c4_4
  have f9 : Arv Z T4.heap b_4 kb_4 own_OT (10 : Int32) [] .null := c4_5
  have sg10 : ∀ target, Steps p.tables e below (T4.setTop (mkF m 14 #[.val (.ref a), .val (.ref x), .val (.ref b_4), .val (.int (0 : Int32))] [(.ref x), (.int (0 : Int32)), (.ref b_4)])) target → Steps p.tables e below (T4.setTop (mkF m 10 #[.val (.ref a), .val (.ref x), .val (.ref d0), .val (.int (0 : Int32))] [(.ref b_4)])) target := by
    intro target kt
    show Steps p.tables e below (T4.setTop (mkF m 10 #[.val (.ref a), .val (.ref x), .val (.ref d0), .val (.int (0 : Int32))] [(.ref b_4)])) _
    refine XS.astoreN X4.here hx rfl (hb hby d20_10) rfl rfl (l' := #[.val (.ref a), .val (.ref x), .val (.ref b_4), .val (.int (0 : Int32))]) rfl ?_
    show Steps p.tables e below (T4.setTop (mkF m 11 #[.val (.ref a), .val (.ref x), .val (.ref b_4), .val (.int (0 : Int32))] [])) _
    refine XS.aloadN X4.here hx rfl (hb hby d20_11) rfl rfl ?_
    show Steps p.tables e below (T4.setTop (mkF m 12 #[.val (.ref a), .val (.ref x), .val (.ref b_4), .val (.int (0 : Int32))] [(.ref b_4)])) _
    refine XS.iloadN X4.here hx rfl (hb hby d20_12) rfl ?_
    show Steps p.tables e below (T4.setTop (mkF m 13 #[.val (.ref a), .val (.ref x), .val (.ref b_4), .val (.int (0 : Int32))] [(.int (0 : Int32)), (.ref b_4)])) _
    refine XS.aloadN X4.here hx rfl (hb hby d20_13) rfl rfl ?_
    exact kt
  obtain ⟨cl11, Ar11, qc11, S11, M11, Hh11, G11⟩ := id f9
  have hin11 : ¬ ((0 : Int32) < 0 ∨ cl11.slots.size ≤ ((0 : Int32)).toNatClampNeg) := inb_of S11 ⟨by decide, by decide⟩
  obtain ⟨T12, h12, X12, e12, W12, st12⟩ := stR X4 hx hZ rfl Ar11 (j := (0 : Int32)) hin11 rfl (Sto.of Ar11 (C := "java/lang/Object") (by rw [qc11]; exact c4_6) (Ins.of_exa f6 (hw _ (List.mem_of_getElem? (i := 157) rfl)))) (g := (mkF m 14 #[.val (.ref a), .val (.ref x), .val (.ref b_4), .val (.int (0 : Int32))] [(.ref x), (.int (0 : Int32)), (.ref b_4)])) rfl rfl (hb hby d20_14)
  have N12 := Fr.snoc X12 N4 c4_1
  have Zs12 : n0 ≤ h12.size := by rw [W12.size]; exact Zs4
  have K12 : Keep h0 h12 [a] := K4.wr W12 (Or.inr sz_b_4)
  have f13 : Old Z n0 h12 := f5.wr W12 c4_1
  have f14 : Exa Z h12 x "java/lang/Double" := f6.wr W12
  have f15 : Exa Z h12 a "java/util/ArrayList" := f7.wr W12
  have f16 : Fld Z h12 a "java/util/ArrayList" "size" "I" (.int (0 : Int32)) := f8.other W12 (Or.inl ne_a_b_4)
  have sg17 : ∀ target, Steps p.tables e below (T12.setTop (mkF m 19 #[.val (.ref a), .val (.ref x), .val (.ref b_4), .val (.int (0 : Int32))] [(.int ((0 : Int32) + (1 : Int32))), (.ref a)])) target → Steps p.tables e below (T12.setTop (mkF m 15 #[.val (.ref a), .val (.ref x), .val (.ref b_4), .val (.int (0 : Int32))] [])) target := by
    intro target kt
    show Steps p.tables e below (T12.setTop (mkF m 15 #[.val (.ref a), .val (.ref x), .val (.ref b_4), .val (.int (0 : Int32))] [])) _
    refine XS.aloadN X12.here hx rfl (hb hby d20_15) rfl rfl ?_
    show Steps p.tables e below (T12.setTop (mkF m 16 #[.val (.ref a), .val (.ref x), .val (.ref b_4), .val (.int (0 : Int32))] [(.ref a)])) _
    refine XS.iloadN X12.here hx rfl (hb hby d20_16) rfl ?_
    show Steps p.tables e below (T12.setTop (mkF m 17 #[.val (.ref a), .val (.ref x), .val (.ref b_4), .val (.int (0 : Int32))] [(.int (0 : Int32)), (.ref a)])) _
    refine XS.iconst X12.here hx rfl (hb hby d20_17) ?_
    show Steps p.tables e below (T12.setTop (mkF m 18 #[.val (.ref a), .val (.ref x), .val (.ref b_4), .val (.int (0 : Int32))] [(.int (1 : Int32)), (.int (0 : Int32)), (.ref a)])) _
    refine XS.iadd X12.here hx rfl (hb hby d20_18) rfl ?_
    exact kt
  obtain ⟨T18, h18, X18, e18, W18, st18⟩ := putF X12 hx hZ hown (host := "") (Or.inl (hw _ (List.mem_of_getElem? (i := 134) rfl))) Via.refl e12 f16 f15 (Or.inl (hw _ (List.mem_of_getElem? (i := 135) rfl))) (hw _ (List.mem_of_getElem? (i := 58) rfl)) (ty := .int) (by decide) rfl rfl (g := (mkF m 19 #[.val (.ref a), .val (.ref x), .val (.ref b_4), .val (.int (0 : Int32))] [(.int ((0 : Int32) + (1 : Int32))), (.ref a)])) rfl rfl (hb hby d20_19)
  have N18 := Fr.snoc X18 N12 g_a
  have Zs18 : n0 ≤ h18.size := by rw [W18.size]; exact Zs12
  have K18 : Keep h0 h18 [a] := K12.wr W18 (Or.inl (List.mem_of_getElem? (i := 0) rfl))
  have f19 : Old Z n0 h18 := f13.wr W18 g_a
  have f20 : Exa Z h18 x "java/lang/Double" := f14.wr W18
  have f21 : Exa Z h18 a "java/util/ArrayList" := f15.wr W18
  have f22 : Fld Z h18 a "java/util/ArrayList" "size" "I" (.int ((0 : Int32) + (1 : Int32))) := f16.same W18
  obtain ⟨fs, hr, hrun, hended, hW, hsame⟩ := X18.leave (v := none) (fun _ => rfl)
  refine ⟨_, _, pre0 _ ?_, hrun, hended, _, _, rfl, ?_, ⟨_, rfl⟩, hW, hsame.mono (by decide) (by decide)⟩
  · show Steps p.tables e below (s₁.setTop (mkF m 0 #[.val (.ref a), .val (.ref x), .val (.ref d0), .val (.int (0 : Int32))] [])) _
    refine sg2 _ ?_
    refine sg3 _ ?_
    refine st4.trans ?_
    refine sg10 _ ?_
    refine st12 _ ?_
    refine sg17 _ ?_
    refine st18 _ ?_
    show Steps p.tables e below (T18.setTop (mkF m 22 #[.val (.ref a), .val (.ref x), .val (.ref b_4), .val (.int (0 : Int32))] [])) _
    exact X18.returnOut hx Bd.returns (hb hby d20_22) hr
  · show Q_rm20 Z a x d0 kd h0 n0 _ T18.heap _
    rw [e18]
    exact ⟨rfl, N18, K18⟩
theorem d19_0 : decode jdk_38_method_25_code 0 = .ok (.aload_n 0, 1) := by decide +kernel
theorem d19_1 : decode jdk_38_method_25_code 1 = .ok (.dup, 1) := by decide +kernel
theorem d19_2 : decode jdk_38_method_25_code 2 = .ok (.getfield 63, 3) := by decide +kernel
theorem d19_5 : decode jdk_38_method_25_code 5 = .ok (.iconst 1, 1) := by decide +kernel
theorem d19_6 : decode jdk_38_method_25_code 6 = .ok (.iadd, 1) := by decide +kernel
theorem d19_7 : decode jdk_38_method_25_code 7 = .ok (.putfield 63, 3) := by decide +kernel
theorem d19_10 : decode jdk_38_method_25_code 10 = .ok (.aload_n 0, 1) := by decide +kernel
theorem d19_11 : decode jdk_38_method_25_code 11 = .ok (.aload_n 1, 1) := by decide +kernel
theorem d19_12 : decode jdk_38_method_25_code 12 = .ok (.aload_n 0, 1) := by decide +kernel
theorem d19_13 : decode jdk_38_method_25_code 13 = .ok (.getfield 9, 3) := by decide +kernel
theorem d19_16 : decode jdk_38_method_25_code 16 = .ok (.aload_n 0, 1) := by decide +kernel
theorem d19_17 : decode jdk_38_method_25_code 17 = .ok (.getfield 48, 3) := by decide +kernel
theorem d19_20 : decode jdk_38_method_25_code 20 = .ok (.invokevirtual 131, 3) := by decide +kernel
theorem pd_13 : parseMethodDescriptor "(Ljava/lang/Object;[Ljava/lang/Object;I)V" = some ⟨[(.object "java/lang/Object"), (.array (.object "java/lang/Object")), .int], none⟩ := by decide +kernel
theorem d19_23 : decode jdk_38_method_25_code 23 = .ok (.iconst 1, 1) := by decide +kernel
theorem d19_24 : decode jdk_38_method_25_code 24 = .ok (.ireturn, 1) := by decide +kernel
theorem pn_19 : plainName "java/util/ArrayList" = true := by first | (simp [plainName, overriddenIn]; done) | decide +kernel
theorem ef_rm19 (m : MethodId) (x0 : Addr) (x1 : Addr) : entryFrame m #[(.ref x0), (.ref x1)] 2 = mkF m 0 #[.val (.ref x0), .val (.ref x1)] [] := by first | (simp [entryFrame, mkF, argsToLocals, Value.category]; done) | rfl
def Q_rm19 (Z : State) (a : Addr) (x : Addr) (d0 : Addr) (kd : ClassId) (mc : Int32) (h0 : Heap) (n0 : Nat) (rv : Option Value) (h : Heap) (L : List Loc) : Prop := rv = some (.int (1 : Int32)) ∧ Fr n0 L ∧ Keep h0 h [a]
set_option maxRecDepth 65536 in
set_option maxHeartbeats 40000000 in
theorem rm19 (l : Launch) (Z : State) (a0 : Array Value) (hw : ∀ d ∈ tables_1, d.before a0 Z = true) (ws : List Jvm.Cond) (a : Addr) (x : Addr) (d0 : Addr) (kd : ClassId) (mc : Int32) (h0 : Heap) (n0 : Nat) (Z0 : n0 ≤ h0.size) (E_a : Exa Z h0 a "java/util/ArrayList") (F2 : Fld Z h0 a "java/util/ArrayList" "elementData" "[Ljava/lang/Object;" (.ref d0)) (F3 : Fld Z h0 a "java/util/ArrayList" "size" "I" (.int (0 : Int32))) (g_a : n0 ≤ a) (O : Old Z n0 h0) (S0 : Sta Z Z.heap "java/util/ArrayList" "DEFAULTCAPACITY_EMPTY_ELEMENTDATA" "[Ljava/lang/Object;" (.ref d0)) (V0 : Arv Z Z.heap d0 kd own_OT (0 : Int32) [] .null) (F1 : Fld Z h0 a "java/util/AbstractList" "modCount" "I" (.int mc)) (E_x : Exa Z h0 x "java/lang/Double") (ne : x ≠ a) :
    MetFree l (⟨"java/util/ArrayList", "add", "(Ljava/lang/Object;)Z"⟩ : MethodName) (head1 (Jvm.Cond.code (⟨"java/util/ArrayList", "add", "(Ljava/lang/Object;)Z"⟩ : MethodName) jdk_38_method_25_code 2 (some .boolean) :: ws) ({ frames := 4, cells := 1, slots := 10, locals := 56 } : Room)) (fun av U => av = #[(.ref a), (.ref x)] ∧ Z.Warmed39 U.vm ∧ U.heap = h0) (fun _ _ _ _ _ => True) (fun _ U o U' => ∃ rv L, o = .returned rv ∧ Q_rm19 Z a x d0 kd mc h0 n0 rv U'.heap L ∧ FrameEnd U o U' L ({ frames := 4, cells := 1, slots := 10, locals := 56 } : Room).cells ({ frames := 4, cells := 1, slots := 10, locals := 56 } : Room).slots) := by
  refine MetFree.of_bodySF (plainFor_of_name pn_19) hisR ?_
  intro p e s m args below meth c s₁ Bd hml0 hP hK
  obtain ⟨rfl, hZ, hh⟩ := hP
  have hx := Bd.exec
  have hby := Bd.bytes
  have hml : c.maxLocals = 2 := hml0
  have hown : s.vm.findClass "java/util/ArrayList" = some m.cls := findClass_of_methodNamed Bd.named
  have hnm := (name_of_methodNamed Bd.named Bd.method).1
  have X0 : Stand p l e ({ frames := 4, cells := 1, slots := 10, locals := 56 } : Room) s m #[(.ref a), (.ref x)] below meth c s₁ [] 0 0 := Stand.of_body Bd
  have e0 : s₁.heap = h0 := by rw [← hh, Bd.state]; rfl
  have N0 := Fr.nil n0
  have pre0 : ∀ t, Steps p.tables e below (s₁.setTop (mkF m 0 #[.val (.ref a), .val (.ref x)] [])) t → Steps p.tables e below (s₁.setTop (entryFrame m #[(.ref a), (.ref x)] 2)) t := fun t k => castTop (ef_rm19 m a x) k
  have sg1 : ∀ target, Steps p.tables e below (s₁.setTop (mkF m 2 #[.val (.ref a), .val (.ref x)] [(.ref a), (.ref a)])) target → Steps p.tables e below (s₁.setTop (mkF m 0 #[.val (.ref a), .val (.ref x)] [])) target := by
    intro target kt
    show Steps p.tables e below (s₁.setTop (mkF m 0 #[.val (.ref a), .val (.ref x)] [])) _
    refine XS.aloadN X0.here hx rfl (hb hby d19_0) rfl rfl ?_
    show Steps p.tables e below (s₁.setTop (mkF m 1 #[.val (.ref a), .val (.ref x)] [(.ref a)])) _
    refine XS.dup X0.here hx rfl (hb hby d19_1) rfl rfl ?_
    exact kt
  obtain ⟨T2, X2, e2, st2⟩ := getF X0 hx hZ hown (host := "") (Or.inl (hw _ (List.mem_of_getElem? (i := 132) rfl))) (Via.of (hw _ (List.mem_of_getElem? (i := 133) rfl))) e0 F1 (g := (mkF m 2 #[.val (.ref a), .val (.ref x)] [(.ref a), (.ref a)])) rfl rfl (hb hby d19_2)
  have sg3 : ∀ target, Steps p.tables e below (T2.setTop (mkF m 7 #[.val (.ref a), .val (.ref x)] [(.int (mc + (1 : Int32))), (.ref a)])) target → Steps p.tables e below (T2.setTop (mkF m 5 #[.val (.ref a), .val (.ref x)] [(.int mc), (.ref a)])) target := by
    intro target kt
    show Steps p.tables e below (T2.setTop (mkF m 5 #[.val (.ref a), .val (.ref x)] [(.int mc), (.ref a)])) _
    refine XS.iconst X2.here hx rfl (hb hby d19_5) ?_
    show Steps p.tables e below (T2.setTop (mkF m 6 #[.val (.ref a), .val (.ref x)] [(.int (1 : Int32)), (.int mc), (.ref a)])) _
    refine XS.iadd X2.here hx rfl (hb hby d19_6) rfl ?_
    exact kt
  obtain ⟨T4, h4, X4, e4, W4, st4⟩ := putF X2 hx hZ hown (host := "") (Or.inl (hw _ (List.mem_of_getElem? (i := 132) rfl))) (Via.of (hw _ (List.mem_of_getElem? (i := 133) rfl))) e2 F1 E_a (Or.inl (hw _ (List.mem_of_getElem? (i := 77) rfl))) (hw _ (List.mem_of_getElem? (i := 58) rfl)) (ty := .int) (by decide) rfl rfl (g := (mkF m 7 #[.val (.ref a), .val (.ref x)] [(.int (mc + (1 : Int32))), (.ref a)])) rfl rfl (hb hby d19_7)
  have N4 := Fr.snoc X4 N0 g_a
  have Zs4 : n0 ≤ h4.size := by rw [W4.size]; exact Z0
  have K4 : Keep h0 h4 [a] := (Keep.refl h0 [a]).wr W4 (Or.inl (List.mem_of_getElem? (i := 0) rfl))
  have f5 : Exa Z h4 a "java/util/ArrayList" := E_a.wr W4
  have f6 : Fld Z h4 a "java/util/ArrayList" "elementData" "[Ljava/lang/Object;" (.ref d0) := F2.other W4 (Or.inr (slot_ne (Or.inl (hw _ (List.mem_of_getElem? (i := 80) rfl))) (Or.inl (hw _ (List.mem_of_getElem? (i := 77) rfl))) (by decide) (t := (.array (.object "java/lang/Object"))) (t' := .int) (by decide) (by decide)))
  have f7 : Fld Z h4 a "java/util/ArrayList" "size" "I" (.int (0 : Int32)) := F3.other W4 (Or.inr (slot_ne (Or.inl (hw _ (List.mem_of_getElem? (i := 135) rfl))) (Or.inl (hw _ (List.mem_of_getElem? (i := 77) rfl))) (by decide) (t := .int) (t' := .int) (by decide) (by decide)))
  have f8 : Old Z n0 h4 := O.wr W4 g_a
  have f9 : Exa Z h4 x "java/lang/Double" := E_x.wr W4
  have f10 : Fld Z h4 a "java/util/AbstractList" "modCount" "I" (.int (mc + (1 : Int32))) := F1.same W4
  have sg11 : ∀ target, Steps p.tables e below (T4.setTop (mkF m 13 #[.val (.ref a), .val (.ref x)] [(.ref a), (.ref x), (.ref a)])) target → Steps p.tables e below (T4.setTop (mkF m 10 #[.val (.ref a), .val (.ref x)] [])) target := by
    intro target kt
    show Steps p.tables e below (T4.setTop (mkF m 10 #[.val (.ref a), .val (.ref x)] [])) _
    refine XS.aloadN X4.here hx rfl (hb hby d19_10) rfl rfl ?_
    show Steps p.tables e below (T4.setTop (mkF m 11 #[.val (.ref a), .val (.ref x)] [(.ref a)])) _
    refine XS.aloadN X4.here hx rfl (hb hby d19_11) rfl rfl ?_
    show Steps p.tables e below (T4.setTop (mkF m 12 #[.val (.ref a), .val (.ref x)] [(.ref x), (.ref a)])) _
    refine XS.aloadN X4.here hx rfl (hb hby d19_12) rfl rfl ?_
    exact kt
  obtain ⟨T12, X12, e12, st12⟩ := getF X4 hx hZ hown (host := "") (Or.inl (hw _ (List.mem_of_getElem? (i := 79) rfl))) Via.refl e4 f6 (g := (mkF m 13 #[.val (.ref a), .val (.ref x)] [(.ref a), (.ref x), (.ref a)])) rfl rfl (hb hby d19_13)
  have sg13 : ∀ target, Steps p.tables e below (T12.setTop (mkF m 17 #[.val (.ref a), .val (.ref x)] [(.ref a), (.ref d0), (.ref x), (.ref a)])) target → Steps p.tables e below (T12.setTop (mkF m 16 #[.val (.ref a), .val (.ref x)] [(.ref d0), (.ref x), (.ref a)])) target := by
    intro target kt
    show Steps p.tables e below (T12.setTop (mkF m 16 #[.val (.ref a), .val (.ref x)] [(.ref d0), (.ref x), (.ref a)])) _
    refine XS.aloadN X12.here hx rfl (hb hby d19_16) rfl rfl ?_
    exact kt
  obtain ⟨T14, X14, e14, st14⟩ := getF X12 hx hZ hown (host := "") (Or.inl (hw _ (List.mem_of_getElem? (i := 134) rfl))) Via.refl e12 f7 (g := (mkF m 17 #[.val (.ref a), .val (.ref x)] [(.ref a), (.ref d0), (.ref x), (.ref a)])) rfl rfl (hb hby d19_17)
  obtain ⟨cq15, q15, q15'⟩ := f5.cell
  obtain ⟨_, _, ⟨T15, L15, k15, n15⟩, -, X15, ⟨Lc15, hQ15, l15, y15, z15⟩, st15⟩ := X14.privateBack hx (y := (⟨"java/util/ArrayList", "add", "(Ljava/lang/Object;[Ljava/lang/Object;I)V"⟩ : MethodName)) hown (mvT hZ (hw _ (List.mem_of_getElem? (i := 136) rfl))) (mvT hZ (hw _ (List.mem_of_getElem? (i := 137) rfl))) (mvT hZ (hw _ (List.mem_of_getElem? (i := 139) rfl))) (Cond.privateMethod_at (mvP hZ (hw _ (List.mem_of_getElem? (i := 138) rfl)) (args := #[]))) (mvT hZ (hw _ (List.mem_of_getElem? (i := 140) rfl))) (by decide) (backOf (W := 0) (rm20 l Z a0 hw [] a x d0 kd h4 n0 Zs4 f5 f6 f7 g_a f8 S0 V0 f9 ne) hZ (hw _ (List.mem_of_getElem? (i := 140) rfl)) (hw _ (List.mem_of_getElem? (i := 59) rfl)) (by decide) (by decide)) (g := (mkF m 20 #[.val (.ref a), .val (.ref x)] [(.int (0 : Int32)), (.ref d0), (.ref x), (.ref a)])) rfl (by rw [hml]; rfl) (Steps.refl _) (a := a) (by rw [e14]; exact q15) q15' (argsL := [(.ref x), (.ref d0), (.int (0 : Int32))]) (rest := []) (lenOf pd_13 rfl) rfl (by show 2 * 0 + _ ≤ _; exact Nat.le_of_eq rfl) (hb hby d19_20) (fun _ _ => ⟨rfl, e14, (by decide : 0 + 1 ≤ _), (by decide : 0 + 10 ≤ _)⟩)
  dsimp only [Pt.U, Pt.locs, Pt.cells, Pt.slots] at X15 l15 y15 z15 st15 hQ15
  subst l15 y15 z15
  obtain ⟨rfl, N15q, c15_0⟩ := hQ15
  have N15 := Fr.app N4 N15q
  have Zs15 : n0 ≤ T15.heap.size := Nat.le_trans Zs4 c15_0.1
  have K15 : Keep h0 T15.heap [a] := K4.trans c15_0 (allS (Or.inl (List.mem_of_getElem? (i := 0) rfl)) all0)
  have f16 : Exa Z T15.heap a "java/util/ArrayList" := f5.keep c15_0
  have f17 : Old Z n0 T15.heap := f8.keep c15_0 (allS g_a all0)
  have f18 : Exa Z T15.heap x "java/lang/Double" := f9.keep c15_0
  have sg19 : ∀ target, Steps p.tables e below (T15.setTop (mkF m 24 #[.val (.ref a), .val (.ref x)] [(.int (1 : Int32))])) target → Steps p.tables e below (T15.setTop (mkF m 23 #[.val (.ref a), .val (.ref x)] [])) target := by
    intro target kt
    show Steps p.tables e below (T15.setTop (mkF m 23 #[.val (.ref a), .val (.ref x)] [])) _
    refine XS.iconst X15.here hx rfl (hb hby d19_23) ?_
    exact kt
  obtain ⟨fs, hr, hrun, hended, hW, hsame⟩ := X15.leave (v := some (.int (1 : Int32))) (fun h => by rw [Bd.returns] at h; cases h)
  refine ⟨_, _, pre0 _ ?_, hrun, hended, _, _, rfl, ?_, ⟨_, rfl⟩, hW, hsame.mono (by decide) (by decide)⟩
  · show Steps p.tables e below (s₁.setTop (mkF m 0 #[.val (.ref a), .val (.ref x)] [])) _
    refine sg1 _ ?_
    refine st2 _ ?_
    refine sg3 _ ?_
    refine st4 _ ?_
    refine sg11 _ ?_
    refine st12 _ ?_
    refine sg13 _ ?_
    refine st14 _ ?_
    refine st15.trans ?_
    refine sg19 _ ?_
    show Steps p.tables e below (T15.setTop (mkF m 24 #[.val (.ref a), .val (.ref x)] [(.int (1 : Int32))])) _
    exact retN X15 hx (t := .boolean) Bd.returns (by simp) (hb hby d19_24) hr
  · show Q_rm19 Z a x d0 kd mc h0 n0 _ T15.heap _
    exact ⟨rfl, N15, K15⟩
theorem d24_0 : decode prog_34_method_14_code 0 = .ok (.aload_n 0, 1) := by decide +kernel
theorem d24_1 : decode prog_34_method_14_code 1 = .ok (.dup, 1) := by decide +kernel
theorem d24_2 : decode prog_34_method_14_code 2 = .ok (.getfield 53, 3) := by decide +kernel
theorem d24_5 : decode prog_34_method_14_code 5 = .ok (.aload_n 1, 1) := by decide +kernel
theorem d24_6 : decode prog_34_method_14_code 6 = .ok (.invokevirtual 108, 3) := by decide +kernel
theorem pd_2 : parseMethodDescriptor "()J" = some ⟨[], some .long⟩ := by decide +kernel
theorem d24_9 : decode prog_34_method_14_code 9 = .ok (.ladd, 1) := by decide +kernel
theorem d24_10 : decode prog_34_method_14_code 10 = .ok (.putfield 53, 3) := by decide +kernel
theorem d24_13 : decode prog_34_method_14_code 13 = .ok (.aload_n 0, 1) := by decide +kernel
theorem d24_14 : decode prog_34_method_14_code 14 = .ok (.dup, 1) := by decide +kernel
theorem d24_15 : decode prog_34_method_14_code 15 = .ok (.getfield 57, 3) := by decide +kernel
theorem d24_18 : decode prog_34_method_14_code 18 = .ok (.aload_n 1, 1) := by decide +kernel
theorem d24_19 : decode prog_34_method_14_code 19 = .ok (.invokevirtual 110, 3) := by decide +kernel
theorem d24_22 : decode prog_34_method_14_code 22 = .ok (.ladd, 1) := by decide +kernel
theorem d24_23 : decode prog_34_method_14_code 23 = .ok (.putfield 57, 3) := by decide +kernel
theorem d24_26 : decode prog_34_method_14_code 26 = .ok (.return_, 1) := by decide +kernel
theorem pn_24 : plainName "com/example/brelok/brelok/perf/Tally" = true := by first | (simp [plainName, overriddenIn]; done) | decide +kernel
theorem ef_rm24 (m : MethodId) (x0 : Addr) (x1 : Addr) : entryFrame m #[(.ref x0), (.ref x1)] 2 = mkF m 0 #[.val (.ref x0), .val (.ref x1)] [] := by first | (simp [entryFrame, mkF, argsToLocals, Value.category]; done) | rfl
def Q_rm24 (Z : State) (a : Addr) (b : Addr) (ex : Int32) (wt : UInt64) (ov : Int64) (lu : Int64) (fg : UInt64) (mo : Int64) (ml : Int64) (h0 : Heap) (n0 : Nat) (rv : Option Value) (h : Heap) (L : List Loc) : Prop := rv = none ∧ Fr n0 L ∧ Keep h0 h [a] ∧ Exa Z h a "com/example/brelok/brelok/perf/Tally" ∧ Fld Z h a "com/example/brelok/brelok/perf/Tally" "excludes" "Z" (.int ex) ∧ Fld Z h a "com/example/brelok/brelok/perf/Tally" "waiting" "D" (.double wt) ∧ Fld Z h a "com/example/brelok/brelok/perf/Tally" "overlaps" "J" (.long (ov + mo)) ∧ Fld Z h a "com/example/brelok/brelok/perf/Tally" "lostUpdates" "J" (.long (lu + ml))
set_option maxRecDepth 65536 in
set_option maxHeartbeats 40000000 in
theorem rm24 (l : Launch) (Z : State) (a0 : Array Value) (hw : ∀ d ∈ tables_1, d.before a0 Z = true) (ws : List Jvm.Cond) (a : Addr) (b : Addr) (ex : Int32) (wt : UInt64) (ov : Int64) (lu : Int64) (fg : UInt64) (mo : Int64) (ml : Int64) (h0 : Heap) (n0 : Nat) (Z0 : n0 ≤ h0.size) (E_a : Exa Z h0 a "com/example/brelok/brelok/perf/Tally") (F_x : Fld Z h0 a "com/example/brelok/brelok/perf/Tally" "excludes" "Z" (.int ex)) (F_w : Fld Z h0 a "com/example/brelok/brelok/perf/Tally" "waiting" "D" (.double wt)) (F_o : Fld Z h0 a "com/example/brelok/brelok/perf/Tally" "overlaps" "J" (.long ov)) (F_l : Fld Z h0 a "com/example/brelok/brelok/perf/Tally" "lostUpdates" "J" (.long lu)) (g_a : n0 ≤ a) (E_b : Exa Z h0 b "com/example/brelok/brelok/perf/Timing$Measure") (G1 : Fld Z h0 b "com/example/brelok/brelok/perf/Timing$Measure" "figure" "D" (.double fg)) (G2 : Fld Z h0 b "com/example/brelok/brelok/perf/Timing$Measure" "overlaps" "J" (.long mo)) (G3 : Fld Z h0 b "com/example/brelok/brelok/perf/Timing$Measure" "lostUpdates" "J" (.long ml)) (ne : b ≠ a) :
    MetFree l (⟨"com/example/brelok/brelok/perf/Tally", "addExclusion", "(Lcom/example/brelok/brelok/perf/Timing$Measure;)V"⟩ : MethodName) (head1 (Jvm.Cond.code (⟨"com/example/brelok/brelok/perf/Tally", "addExclusion", "(Lcom/example/brelok/brelok/perf/Timing$Measure;)V"⟩ : MethodName) prog_34_method_14_code 2 none :: ws) ({ frames := 1, cells := 0, slots := 0, locals := 15 } : Room)) (fun av U => av = #[(.ref a), (.ref b)] ∧ Z.Warmed39 U.vm ∧ U.heap = h0) (fun _ _ _ _ _ => True) (fun _ U o U' => ∃ rv L, o = .returned rv ∧ Q_rm24 Z a b ex wt ov lu fg mo ml h0 n0 rv U'.heap L ∧ FrameEnd U o U' L ({ frames := 1, cells := 0, slots := 0, locals := 15 } : Room).cells ({ frames := 1, cells := 0, slots := 0, locals := 15 } : Room).slots) := by
  refine MetFree.of_bodySF (plainFor_of_name pn_24) hisR ?_
  intro p e s m args below meth c s₁ Bd hml0 hP hK
  obtain ⟨rfl, hZ, hh⟩ := hP
  have hx := Bd.exec
  have hby := Bd.bytes
  have hml : c.maxLocals = 2 := hml0
  have hown : s.vm.findClass "com/example/brelok/brelok/perf/Tally" = some m.cls := findClass_of_methodNamed Bd.named
  have hnm := (name_of_methodNamed Bd.named Bd.method).1
  have X0 : Stand p l e ({ frames := 1, cells := 0, slots := 0, locals := 15 } : Room) s m #[(.ref a), (.ref b)] below meth c s₁ [] 0 0 := Stand.of_body Bd
  have e0 : s₁.heap = h0 := by rw [← hh, Bd.state]; rfl
  have N0 := Fr.nil n0
  have pre0 : ∀ t, Steps p.tables e below (s₁.setTop (mkF m 0 #[.val (.ref a), .val (.ref b)] [])) t → Steps p.tables e below (s₁.setTop (entryFrame m #[(.ref a), (.ref b)] 2)) t := fun t k => castTop (ef_rm24 m a b) k
  have sg1 : ∀ target, Steps p.tables e below (s₁.setTop (mkF m 2 #[.val (.ref a), .val (.ref b)] [(.ref a), (.ref a)])) target → Steps p.tables e below (s₁.setTop (mkF m 0 #[.val (.ref a), .val (.ref b)] [])) target := by
    intro target kt
    show Steps p.tables e below (s₁.setTop (mkF m 0 #[.val (.ref a), .val (.ref b)] [])) _
    refine XS.aloadN X0.here hx rfl (hb hby d24_0) rfl rfl ?_
    show Steps p.tables e below (s₁.setTop (mkF m 1 #[.val (.ref a), .val (.ref b)] [(.ref a)])) _
    refine XS.dup X0.here hx rfl (hb hby d24_1) rfl rfl ?_
    exact kt
  obtain ⟨T2, X2, e2, st2⟩ := getF X0 hx hZ hown (host := "") (Or.inl (hw _ (List.mem_of_getElem? (i := 162) rfl))) Via.refl e0 F_o (g := (mkF m 2 #[.val (.ref a), .val (.ref b)] [(.ref a), (.ref a)])) rfl rfl (hb hby d24_2)
  have sg3 : ∀ target, Steps p.tables e below (T2.setTop (mkF m 6 #[.val (.ref a), .val (.ref b)] [(.ref b), (.long ov), (.ref a)])) target → Steps p.tables e below (T2.setTop (mkF m 5 #[.val (.ref a), .val (.ref b)] [(.long ov), (.ref a)])) target := by
    intro target kt
    show Steps p.tables e below (T2.setTop (mkF m 5 #[.val (.ref a), .val (.ref b)] [(.long ov), (.ref a)])) _
    refine XS.aloadN X2.here hx rfl (hb hby d24_5) rfl rfl ?_
    exact kt
  obtain ⟨cq4, kq4, q4a, q4b, q4c⟩ := isOf hZ e2 E_b
  obtain ⟨_, _, ⟨T4, L4, k4, n4⟩, -, X4, ⟨Lc4, hQ4, l4, y4, z4⟩, st4⟩ := X2.virtualBack hx (y := (⟨"com/example/brelok/brelok/perf/Timing$Measure", "overlaps", "()J"⟩ : MethodName)) (z := (⟨"com/example/brelok/brelok/perf/Timing$Measure", "overlaps", "()J"⟩ : MethodName)) hown (mvT hZ (hw _ (List.mem_of_getElem? (i := 164) rfl))) (mvT hZ (hw _ (List.mem_of_getElem? (i := 165) rfl))) (notFace_of_selects (args := #[]) (mvT hZ (hw _ (List.mem_of_getElem? (i := 167) rfl)))) (mvT hZ (hw _ (List.mem_of_getElem? (i := 167) rfl))) (mvT hZ (hw _ (List.mem_of_getElem? (i := 166) rfl))) (by decide) (backOf (W := 3) (rm25 l Z a0 hw [] b mo h0 n0 Z0 G2) hZ (hw _ (List.mem_of_getElem? (i := 168) rfl)) (hw _ (List.mem_of_getElem? (i := 5) rfl)) (by decide) (by decide)) q4a q4c (g := (mkF m 6 #[.val (.ref a), .val (.ref b)] [(.ref b), (.long ov), (.ref a)])) rfl (by rw [hml]; rfl) (Steps.refl _) (argsL := []) (rest := [(.long ov), (.ref a)]) (lenOf pd_2 rfl) rfl (by show 2 * 0 + _ ≤ _; exact Nat.le_of_eq rfl) (hb hby d24_6) (fun _ _ => ⟨rfl, e2, (by decide : 0 + 0 ≤ _), (by decide : 0 + 0 ≤ _)⟩)
  dsimp only [Pt.U, Pt.locs, Pt.cells, Pt.slots] at X4 l4 y4 z4 st4 hQ4
  subst l4 y4 z4
  obtain ⟨rfl, N4q, c4_0⟩ := hQ4
  have N4 := Fr.app N0 N4q
  have sg5 : ∀ target, Steps p.tables e below (T4.setTop (mkF m 10 #[.val (.ref a), .val (.ref b)] [(.long (ov + mo)), (.ref a)])) target → Steps p.tables e below (T4.setTop (mkF m 9 #[.val (.ref a), .val (.ref b)] [(.long mo), (.long ov), (.ref a)])) target := by
    intro target kt
    show Steps p.tables e below (T4.setTop (mkF m 9 #[.val (.ref a), .val (.ref b)] [(.long mo), (.long ov), (.ref a)])) _
    refine XS.ladd X4.here hx rfl (hb hby d24_9) rfl ?_
    exact kt
  obtain ⟨T6, h6, X6, e6, W6, st6⟩ := putF X4 hx hZ hown (host := "") (Or.inl (hw _ (List.mem_of_getElem? (i := 162) rfl))) Via.refl c4_0 F_o E_a (Or.inl (hw _ (List.mem_of_getElem? (i := 163) rfl))) (hw _ (List.mem_of_getElem? (i := 24) rfl)) (ty := .long) (by decide) rfl rfl (g := (mkF m 10 #[.val (.ref a), .val (.ref b)] [(.long (ov + mo)), (.ref a)])) rfl rfl (hb hby d24_10)
  have N6 := Fr.snoc X6 N4 g_a
  have Zs6 : n0 ≤ h6.size := by rw [W6.size]; exact Z0
  have K6 : Keep h0 h6 [a] := (Keep.refl h0 [a]).wr W6 (Or.inl (List.mem_of_getElem? (i := 0) rfl))
  have f7 : Exa Z h6 a "com/example/brelok/brelok/perf/Tally" := E_a.wr W6
  have f8 : Fld Z h6 a "com/example/brelok/brelok/perf/Tally" "excludes" "Z" (.int ex) := F_x.other W6 (Or.inr (slot_ne (Or.inr (hw _ (List.mem_of_getElem? (i := 88) rfl))) (Or.inl (hw _ (List.mem_of_getElem? (i := 163) rfl))) (by decide) (t := .boolean) (t' := .long) (by decide) (by decide)))
  have f9 : Fld Z h6 a "com/example/brelok/brelok/perf/Tally" "waiting" "D" (.double wt) := F_w.other W6 (Or.inr (slot_ne (Or.inl (hw _ (List.mem_of_getElem? (i := 182) rfl))) (Or.inl (hw _ (List.mem_of_getElem? (i := 163) rfl))) (by decide) (t := .double) (t' := .long) (by decide) (by decide)))
  have f10 : Fld Z h6 a "com/example/brelok/brelok/perf/Tally" "lostUpdates" "J" (.long lu) := F_l.other W6 (Or.inr (slot_ne (Or.inl (hw _ (List.mem_of_getElem? (i := 170) rfl))) (Or.inl (hw _ (List.mem_of_getElem? (i := 163) rfl))) (by decide) (t := .long) (t' := .long) (by decide) (by decide)))
  have f11 : Exa Z h6 b "com/example/brelok/brelok/perf/Timing$Measure" := E_b.wr W6
  have f12 : Fld Z h6 b "com/example/brelok/brelok/perf/Timing$Measure" "figure" "D" (.double fg) := G1.other W6 (Or.inl ne)
  have f13 : Fld Z h6 b "com/example/brelok/brelok/perf/Timing$Measure" "overlaps" "J" (.long mo) := G2.other W6 (Or.inl ne)
  have f14 : Fld Z h6 b "com/example/brelok/brelok/perf/Timing$Measure" "lostUpdates" "J" (.long ml) := G3.other W6 (Or.inl ne)
  have f15 : Fld Z h6 a "com/example/brelok/brelok/perf/Tally" "overlaps" "J" (.long (ov + mo)) := F_o.same W6
  have sg16 : ∀ target, Steps p.tables e below (T6.setTop (mkF m 15 #[.val (.ref a), .val (.ref b)] [(.ref a), (.ref a)])) target → Steps p.tables e below (T6.setTop (mkF m 13 #[.val (.ref a), .val (.ref b)] [])) target := by
    intro target kt
    show Steps p.tables e below (T6.setTop (mkF m 13 #[.val (.ref a), .val (.ref b)] [])) _
    refine XS.aloadN X6.here hx rfl (hb hby d24_13) rfl rfl ?_
    show Steps p.tables e below (T6.setTop (mkF m 14 #[.val (.ref a), .val (.ref b)] [(.ref a)])) _
    refine XS.dup X6.here hx rfl (hb hby d24_14) rfl rfl ?_
    exact kt
  obtain ⟨T17, X17, e17, st17⟩ := getF X6 hx hZ hown (host := "") (Or.inl (hw _ (List.mem_of_getElem? (i := 169) rfl))) Via.refl e6 f10 (g := (mkF m 15 #[.val (.ref a), .val (.ref b)] [(.ref a), (.ref a)])) rfl rfl (hb hby d24_15)
  have sg18 : ∀ target, Steps p.tables e below (T17.setTop (mkF m 19 #[.val (.ref a), .val (.ref b)] [(.ref b), (.long lu), (.ref a)])) target → Steps p.tables e below (T17.setTop (mkF m 18 #[.val (.ref a), .val (.ref b)] [(.long lu), (.ref a)])) target := by
    intro target kt
    show Steps p.tables e below (T17.setTop (mkF m 18 #[.val (.ref a), .val (.ref b)] [(.long lu), (.ref a)])) _
    refine XS.aloadN X17.here hx rfl (hb hby d24_18) rfl rfl ?_
    exact kt
  obtain ⟨cq19, kq19, q19a, q19b, q19c⟩ := isOf hZ e17 f11
  obtain ⟨_, _, ⟨T19, L19, k19, n19⟩, -, X19, ⟨Lc19, hQ19, l19, y19, z19⟩, st19⟩ := X17.virtualBack hx (y := (⟨"com/example/brelok/brelok/perf/Timing$Measure", "lostUpdates", "()J"⟩ : MethodName)) (z := (⟨"com/example/brelok/brelok/perf/Timing$Measure", "lostUpdates", "()J"⟩ : MethodName)) hown (mvT hZ (hw _ (List.mem_of_getElem? (i := 171) rfl))) (mvT hZ (hw _ (List.mem_of_getElem? (i := 172) rfl))) (notFace_of_selects (args := #[]) (mvT hZ (hw _ (List.mem_of_getElem? (i := 174) rfl)))) (mvT hZ (hw _ (List.mem_of_getElem? (i := 174) rfl))) (mvT hZ (hw _ (List.mem_of_getElem? (i := 173) rfl))) (by decide) (backOf (W := 3) (rm26 l Z a0 hw [] b ml h6 n0 Zs6 f14) hZ (hw _ (List.mem_of_getElem? (i := 175) rfl)) (hw _ (List.mem_of_getElem? (i := 5) rfl)) (by decide) (by decide)) q19a q19c (g := (mkF m 19 #[.val (.ref a), .val (.ref b)] [(.ref b), (.long lu), (.ref a)])) rfl (by rw [hml]; rfl) (Steps.refl _) (argsL := []) (rest := [(.long lu), (.ref a)]) (lenOf pd_2 rfl) rfl (by show 2 * 0 + _ ≤ _; exact Nat.le_of_eq rfl) (hb hby d24_19) (fun _ _ => ⟨rfl, e17, (by decide : 0 + 0 ≤ _), (by decide : 0 + 0 ≤ _)⟩)
  dsimp only [Pt.U, Pt.locs, Pt.cells, Pt.slots] at X19 l19 y19 z19 st19 hQ19
  subst l19 y19 z19
  obtain ⟨rfl, N19q, c19_0⟩ := hQ19
  have N19 := Fr.app N6 N19q
  have sg20 : ∀ target, Steps p.tables e below (T19.setTop (mkF m 23 #[.val (.ref a), .val (.ref b)] [(.long (lu + ml)), (.ref a)])) target → Steps p.tables e below (T19.setTop (mkF m 22 #[.val (.ref a), .val (.ref b)] [(.long ml), (.long lu), (.ref a)])) target := by
    intro target kt
    show Steps p.tables e below (T19.setTop (mkF m 22 #[.val (.ref a), .val (.ref b)] [(.long ml), (.long lu), (.ref a)])) _
    refine XS.ladd X19.here hx rfl (hb hby d24_22) rfl ?_
    exact kt
  obtain ⟨T21, h21, X21, e21, W21, st21⟩ := putF X19 hx hZ hown (host := "") (Or.inl (hw _ (List.mem_of_getElem? (i := 169) rfl))) Via.refl c19_0 f10 f7 (Or.inl (hw _ (List.mem_of_getElem? (i := 170) rfl))) (hw _ (List.mem_of_getElem? (i := 24) rfl)) (ty := .long) (by decide) rfl rfl (g := (mkF m 23 #[.val (.ref a), .val (.ref b)] [(.long (lu + ml)), (.ref a)])) rfl rfl (hb hby d24_23)
  have N21 := Fr.snoc X21 N19 g_a
  have Zs21 : n0 ≤ h21.size := by rw [W21.size]; exact Zs6
  have K21 : Keep h0 h21 [a] := K6.wr W21 (Or.inl (List.mem_of_getElem? (i := 0) rfl))
  have f22 : Exa Z h21 a "com/example/brelok/brelok/perf/Tally" := f7.wr W21
  have f23 : Fld Z h21 a "com/example/brelok/brelok/perf/Tally" "excludes" "Z" (.int ex) := f8.other W21 (Or.inr (slot_ne (Or.inr (hw _ (List.mem_of_getElem? (i := 88) rfl))) (Or.inl (hw _ (List.mem_of_getElem? (i := 170) rfl))) (by decide) (t := .boolean) (t' := .long) (by decide) (by decide)))
  have f24 : Fld Z h21 a "com/example/brelok/brelok/perf/Tally" "waiting" "D" (.double wt) := f9.other W21 (Or.inr (slot_ne (Or.inl (hw _ (List.mem_of_getElem? (i := 182) rfl))) (Or.inl (hw _ (List.mem_of_getElem? (i := 170) rfl))) (by decide) (t := .double) (t' := .long) (by decide) (by decide)))
  have f25 : Fld Z h21 a "com/example/brelok/brelok/perf/Tally" "overlaps" "J" (.long (ov + mo)) := f15.other W21 (Or.inr (slot_ne (Or.inl (hw _ (List.mem_of_getElem? (i := 163) rfl))) (Or.inl (hw _ (List.mem_of_getElem? (i := 170) rfl))) (by decide) (t := .long) (t' := .long) (by decide) (by decide)))
  have f26 : Exa Z h21 b "com/example/brelok/brelok/perf/Timing$Measure" := f11.wr W21
  have f27 : Fld Z h21 b "com/example/brelok/brelok/perf/Timing$Measure" "figure" "D" (.double fg) := f12.other W21 (Or.inl ne)
  have f28 : Fld Z h21 b "com/example/brelok/brelok/perf/Timing$Measure" "overlaps" "J" (.long mo) := f13.other W21 (Or.inl ne)
  have f29 : Fld Z h21 b "com/example/brelok/brelok/perf/Timing$Measure" "lostUpdates" "J" (.long ml) := f14.other W21 (Or.inl ne)
  have f30 : Fld Z h21 a "com/example/brelok/brelok/perf/Tally" "lostUpdates" "J" (.long (lu + ml)) := f10.same W21
  obtain ⟨fs, hr, hrun, hended, hW, hsame⟩ := X21.leave (v := none) (fun _ => rfl)
  refine ⟨_, _, pre0 _ ?_, hrun, hended, _, _, rfl, ?_, ⟨_, rfl⟩, hW, hsame.mono (by decide) (by decide)⟩
  · show Steps p.tables e below (s₁.setTop (mkF m 0 #[.val (.ref a), .val (.ref b)] [])) _
    refine sg1 _ ?_
    refine st2 _ ?_
    refine sg3 _ ?_
    refine st4.trans ?_
    refine sg5 _ ?_
    refine st6 _ ?_
    refine sg16 _ ?_
    refine st17 _ ?_
    refine sg18 _ ?_
    refine st19.trans ?_
    refine sg20 _ ?_
    refine st21 _ ?_
    show Steps p.tables e below (T21.setTop (mkF m 26 #[.val (.ref a), .val (.ref b)] [])) _
    exact X21.returnOut hx Bd.returns (hb hby d24_26) hr
  · show Q_rm24 Z a b ex wt ov lu fg mo ml h0 n0 _ T21.heap _
    rw [e21]
    exact ⟨rfl, N21, K21, f22, f23, f24, f25, f30⟩
theorem d27_0 : decode prog_34_method_6_code 0 = .ok (.aload_n 0, 1) := by decide +kernel
theorem d27_1 : decode prog_34_method_6_code 1 = .ok (.aload_n 1, 1) := by decide +kernel
theorem d27_2 : decode prog_34_method_6_code 2 = .ok (.invokevirtual 39, 3) := by decide +kernel
theorem pd_1 : parseMethodDescriptor "()D" = some ⟨[], some .double⟩ := by decide +kernel
theorem d27_5 : decode prog_34_method_6_code 5 = .ok (.putfield 49, 3) := by decide +kernel
theorem d27_8 : decode prog_34_method_6_code 8 = .ok (.aload_n 0, 1) := by decide +kernel
theorem d27_9 : decode prog_34_method_6_code 9 = .ok (.aload_n 1, 1) := by decide +kernel
theorem d27_10 : decode prog_34_method_6_code 10 = .ok (.invokevirtual 45, 3) := by decide +kernel
theorem pd_11 : parseMethodDescriptor "(Lcom/example/brelok/brelok/perf/Timing$Measure;)V" = some ⟨[(.object "com/example/brelok/brelok/perf/Timing$Measure")], none⟩ := by decide +kernel
theorem d27_13 : decode prog_34_method_6_code 13 = .ok (.return_, 1) := by decide +kernel
theorem pn_27 : plainName "com/example/brelok/brelok/perf/Tally" = true := by first | (simp [plainName, overriddenIn]; done) | decide +kernel
theorem ef_rm27 (m : MethodId) (x0 : Addr) (x1 : Addr) : entryFrame m #[(.ref x0), (.ref x1)] 2 = mkF m 0 #[.val (.ref x0), .val (.ref x1)] [] := by first | (simp [entryFrame, mkF, argsToLocals, Value.category]; done) | rfl
def Q_rm27 (Z : State) (a : Addr) (b : Addr) (ex : Int32) (wt : UInt64) (ov : Int64) (lu : Int64) (fg : UInt64) (mo : Int64) (ml : Int64) (h0 : Heap) (n0 : Nat) (rv : Option Value) (h : Heap) (L : List Loc) : Prop := rv = none ∧ Fr n0 L ∧ Keep h0 h [a] ∧ Exa Z h a "com/example/brelok/brelok/perf/Tally" ∧ Fld Z h a "com/example/brelok/brelok/perf/Tally" "excludes" "Z" (.int ex) ∧ Fld Z h a "com/example/brelok/brelok/perf/Tally" "waiting" "D" (.double fg) ∧ Fld Z h a "com/example/brelok/brelok/perf/Tally" "overlaps" "J" (.long (ov + mo)) ∧ Fld Z h a "com/example/brelok/brelok/perf/Tally" "lostUpdates" "J" (.long (lu + ml))
set_option maxRecDepth 65536 in
set_option maxHeartbeats 40000000 in
theorem rm27 (l : Launch) (Z : State) (a0 : Array Value) (hw : ∀ d ∈ tables_1, d.before a0 Z = true) (ws : List Jvm.Cond) (a : Addr) (b : Addr) (ex : Int32) (wt : UInt64) (ov : Int64) (lu : Int64) (fg : UInt64) (mo : Int64) (ml : Int64) (h0 : Heap) (n0 : Nat) (Z0 : n0 ≤ h0.size) (E_a : Exa Z h0 a "com/example/brelok/brelok/perf/Tally") (F_x : Fld Z h0 a "com/example/brelok/brelok/perf/Tally" "excludes" "Z" (.int ex)) (F_w : Fld Z h0 a "com/example/brelok/brelok/perf/Tally" "waiting" "D" (.double wt)) (F_o : Fld Z h0 a "com/example/brelok/brelok/perf/Tally" "overlaps" "J" (.long ov)) (F_l : Fld Z h0 a "com/example/brelok/brelok/perf/Tally" "lostUpdates" "J" (.long lu)) (g_a : n0 ≤ a) (E_b : Exa Z h0 b "com/example/brelok/brelok/perf/Timing$Measure") (G1 : Fld Z h0 b "com/example/brelok/brelok/perf/Timing$Measure" "figure" "D" (.double fg)) (G2 : Fld Z h0 b "com/example/brelok/brelok/perf/Timing$Measure" "overlaps" "J" (.long mo)) (G3 : Fld Z h0 b "com/example/brelok/brelok/perf/Timing$Measure" "lostUpdates" "J" (.long ml)) (ne : b ≠ a) :
    MetFree l (⟨"com/example/brelok/brelok/perf/Tally", "setWaiting", "(Lcom/example/brelok/brelok/perf/Timing$Measure;)V"⟩ : MethodName) (head1 (Jvm.Cond.code (⟨"com/example/brelok/brelok/perf/Tally", "setWaiting", "(Lcom/example/brelok/brelok/perf/Timing$Measure;)V"⟩ : MethodName) prog_34_method_6_code 2 none :: ws) ({ frames := 2, cells := 0, slots := 0, locals := 28 } : Room)) (fun av U => av = #[(.ref a), (.ref b)] ∧ Z.Warmed39 U.vm ∧ U.heap = h0) (fun _ _ _ _ _ => True) (fun _ U o U' => ∃ rv L, o = .returned rv ∧ Q_rm27 Z a b ex wt ov lu fg mo ml h0 n0 rv U'.heap L ∧ FrameEnd U o U' L ({ frames := 2, cells := 0, slots := 0, locals := 28 } : Room).cells ({ frames := 2, cells := 0, slots := 0, locals := 28 } : Room).slots) := by
  refine MetFree.of_bodySF (plainFor_of_name pn_27) hisR ?_
  intro p e s m args below meth c s₁ Bd hml0 hP hK
  obtain ⟨rfl, hZ, hh⟩ := hP
  have hx := Bd.exec
  have hby := Bd.bytes
  have hml : c.maxLocals = 2 := hml0
  have hown : s.vm.findClass "com/example/brelok/brelok/perf/Tally" = some m.cls := findClass_of_methodNamed Bd.named
  have hnm := (name_of_methodNamed Bd.named Bd.method).1
  have X0 : Stand p l e ({ frames := 2, cells := 0, slots := 0, locals := 28 } : Room) s m #[(.ref a), (.ref b)] below meth c s₁ [] 0 0 := Stand.of_body Bd
  have e0 : s₁.heap = h0 := by rw [← hh, Bd.state]; rfl
  have N0 := Fr.nil n0
  have pre0 : ∀ t, Steps p.tables e below (s₁.setTop (mkF m 0 #[.val (.ref a), .val (.ref b)] [])) t → Steps p.tables e below (s₁.setTop (entryFrame m #[(.ref a), (.ref b)] 2)) t := fun t k => castTop (ef_rm27 m a b) k
  have sg1 : ∀ target, Steps p.tables e below (s₁.setTop (mkF m 2 #[.val (.ref a), .val (.ref b)] [(.ref b), (.ref a)])) target → Steps p.tables e below (s₁.setTop (mkF m 0 #[.val (.ref a), .val (.ref b)] [])) target := by
    intro target kt
    show Steps p.tables e below (s₁.setTop (mkF m 0 #[.val (.ref a), .val (.ref b)] [])) _
    refine XS.aloadN X0.here hx rfl (hb hby d27_0) rfl rfl ?_
    show Steps p.tables e below (s₁.setTop (mkF m 1 #[.val (.ref a), .val (.ref b)] [(.ref a)])) _
    refine XS.aloadN X0.here hx rfl (hb hby d27_1) rfl rfl ?_
    exact kt
  obtain ⟨cq2, kq2, q2a, q2b, q2c⟩ := isOf hZ e0 E_b
  obtain ⟨_, _, ⟨T2, L2, k2, n2⟩, -, X2, ⟨Lc2, hQ2, l2, y2, z2⟩, st2⟩ := X0.virtualBack hx (y := (⟨"com/example/brelok/brelok/perf/Timing$Measure", "figure", "()D"⟩ : MethodName)) (z := (⟨"com/example/brelok/brelok/perf/Timing$Measure", "figure", "()D"⟩ : MethodName)) hown (mvT hZ (hw _ (List.mem_of_getElem? (i := 99) rfl))) (mvT hZ (hw _ (List.mem_of_getElem? (i := 100) rfl))) (notFace_of_selects (args := #[]) (mvT hZ (hw _ (List.mem_of_getElem? (i := 102) rfl)))) (mvT hZ (hw _ (List.mem_of_getElem? (i := 102) rfl))) (mvT hZ (hw _ (List.mem_of_getElem? (i := 101) rfl))) (by decide) (backOf (W := 1) (rm15 l Z a0 hw [] b fg h0 n0 Z0 G1) hZ (hw _ (List.mem_of_getElem? (i := 103) rfl)) (hw _ (List.mem_of_getElem? (i := 5) rfl)) (by decide) (by decide)) q2a q2c (g := (mkF m 2 #[.val (.ref a), .val (.ref b)] [(.ref b), (.ref a)])) rfl (by rw [hml]; rfl) (Steps.refl _) (argsL := []) (rest := [(.ref a)]) (lenOf pd_1 rfl) rfl (by show 2 * 0 + _ ≤ _; exact Nat.le_of_eq rfl) (hb hby d27_2) (fun _ _ => ⟨rfl, e0, (by decide : 0 + 0 ≤ _), (by decide : 0 + 0 ≤ _)⟩)
  dsimp only [Pt.U, Pt.locs, Pt.cells, Pt.slots] at X2 l2 y2 z2 st2 hQ2
  subst l2 y2 z2
  obtain ⟨rfl, N2q, c2_0⟩ := hQ2
  have N2 := Fr.app N0 N2q
  obtain ⟨T3, h3, X3, e3, W3, st3⟩ := putF X2 hx hZ hown (host := "") (Or.inl (hw _ (List.mem_of_getElem? (i := 181) rfl))) Via.refl c2_0 F_w E_a (Or.inl (hw _ (List.mem_of_getElem? (i := 182) rfl))) (hw _ (List.mem_of_getElem? (i := 24) rfl)) (ty := .double) (by decide) rfl rfl (g := (mkF m 5 #[.val (.ref a), .val (.ref b)] [(.double fg), (.ref a)])) rfl rfl (hb hby d27_5)
  have N3 := Fr.snoc X3 N2 g_a
  have Zs3 : n0 ≤ h3.size := by rw [W3.size]; exact Z0
  have K3 : Keep h0 h3 [a] := (Keep.refl h0 [a]).wr W3 (Or.inl (List.mem_of_getElem? (i := 0) rfl))
  have f4 : Exa Z h3 a "com/example/brelok/brelok/perf/Tally" := E_a.wr W3
  have f5 : Fld Z h3 a "com/example/brelok/brelok/perf/Tally" "excludes" "Z" (.int ex) := F_x.other W3 (Or.inr (slot_ne (Or.inr (hw _ (List.mem_of_getElem? (i := 88) rfl))) (Or.inl (hw _ (List.mem_of_getElem? (i := 182) rfl))) (by decide) (t := .boolean) (t' := .double) (by decide) (by decide)))
  have f6 : Fld Z h3 a "com/example/brelok/brelok/perf/Tally" "overlaps" "J" (.long ov) := F_o.other W3 (Or.inr (slot_ne (Or.inl (hw _ (List.mem_of_getElem? (i := 163) rfl))) (Or.inl (hw _ (List.mem_of_getElem? (i := 182) rfl))) (by decide) (t := .long) (t' := .double) (by decide) (by decide)))
  have f7 : Fld Z h3 a "com/example/brelok/brelok/perf/Tally" "lostUpdates" "J" (.long lu) := F_l.other W3 (Or.inr (slot_ne (Or.inl (hw _ (List.mem_of_getElem? (i := 170) rfl))) (Or.inl (hw _ (List.mem_of_getElem? (i := 182) rfl))) (by decide) (t := .long) (t' := .double) (by decide) (by decide)))
  have f8 : Exa Z h3 b "com/example/brelok/brelok/perf/Timing$Measure" := E_b.wr W3
  have f9 : Fld Z h3 b "com/example/brelok/brelok/perf/Timing$Measure" "figure" "D" (.double fg) := G1.other W3 (Or.inl ne)
  have f10 : Fld Z h3 b "com/example/brelok/brelok/perf/Timing$Measure" "overlaps" "J" (.long mo) := G2.other W3 (Or.inl ne)
  have f11 : Fld Z h3 b "com/example/brelok/brelok/perf/Timing$Measure" "lostUpdates" "J" (.long ml) := G3.other W3 (Or.inl ne)
  have f12 : Fld Z h3 a "com/example/brelok/brelok/perf/Tally" "waiting" "D" (.double fg) := F_w.same W3
  have sg13 : ∀ target, Steps p.tables e below (T3.setTop (mkF m 10 #[.val (.ref a), .val (.ref b)] [(.ref b), (.ref a)])) target → Steps p.tables e below (T3.setTop (mkF m 8 #[.val (.ref a), .val (.ref b)] [])) target := by
    intro target kt
    show Steps p.tables e below (T3.setTop (mkF m 8 #[.val (.ref a), .val (.ref b)] [])) _
    refine XS.aloadN X3.here hx rfl (hb hby d27_8) rfl rfl ?_
    show Steps p.tables e below (T3.setTop (mkF m 9 #[.val (.ref a), .val (.ref b)] [(.ref a)])) _
    refine XS.aloadN X3.here hx rfl (hb hby d27_9) rfl rfl ?_
    exact kt
  obtain ⟨cq14, q14, q14'⟩ := f4.cell
  obtain ⟨_, _, ⟨T14, L14, k14, n14⟩, -, X14, ⟨Lc14, hQ14, l14, y14, z14⟩, st14⟩ := X3.privateBack hx (y := (⟨"com/example/brelok/brelok/perf/Tally", "addExclusion", "(Lcom/example/brelok/brelok/perf/Timing$Measure;)V"⟩ : MethodName)) hown (mvT hZ (hw _ (List.mem_of_getElem? (i := 158) rfl))) (mvT hZ (hw _ (List.mem_of_getElem? (i := 159) rfl))) (own_selp (by decide) (mvT hZ (hw _ (List.mem_of_getElem? (i := 24) rfl))) (mvP hZ (hw _ (List.mem_of_getElem? (i := 160) rfl))) (mvT hZ (hw _ (List.mem_of_getElem? (i := 159) rfl)))) (Cond.privateMethod_at (mvP hZ (hw _ (List.mem_of_getElem? (i := 160) rfl)) (args := #[]))) (mvT hZ (hw _ (List.mem_of_getElem? (i := 161) rfl))) (by decide) (backOf (W := 0) (rm24 l Z a0 hw [] a b ex fg ov lu fg mo ml h3 n0 Zs3 f4 f5 f12 f6 f7 g_a f8 f9 f10 f11 ne) hZ (hw _ (List.mem_of_getElem? (i := 161) rfl)) (hw _ (List.mem_of_getElem? (i := 25) rfl)) (by decide) (by decide)) (g := (mkF m 10 #[.val (.ref a), .val (.ref b)] [(.ref b), (.ref a)])) rfl (by rw [hml]; rfl) (Steps.refl _) (a := a) (by rw [e3]; exact q14) q14' (argsL := [(.ref b)]) (rest := []) (lenOf pd_11 rfl) rfl (by show 2 * 0 + _ ≤ _; exact Nat.le_of_eq rfl) (hb hby d27_10) (fun _ _ => ⟨rfl, e3, (by decide : 0 + 0 ≤ _), (by decide : 0 + 0 ≤ _)⟩)
  dsimp only [Pt.U, Pt.locs, Pt.cells, Pt.slots] at X14 l14 y14 z14 st14 hQ14
  subst l14 y14 z14
  obtain ⟨rfl, N14q, c14_0, c14_1, c14_2, c14_3, c14_4, c14_5⟩ := hQ14
  have N14 := Fr.app N3 N14q
  have Zs14 : n0 ≤ T14.heap.size := Nat.le_trans Zs3 c14_0.1
  have K14 : Keep h0 T14.heap [a] := K3.trans c14_0 (allS (Or.inl (List.mem_of_getElem? (i := 0) rfl)) all0)
  have f15 : Exa Z T14.heap b "com/example/brelok/brelok/perf/Timing$Measure" := f8.keep c14_0
  have f16 : Fld Z T14.heap b "com/example/brelok/brelok/perf/Timing$Measure" "figure" "D" (.double fg) := f9.keep c14_0 (ninS ne nin0)
  have f17 : Fld Z T14.heap b "com/example/brelok/brelok/perf/Timing$Measure" "overlaps" "J" (.long mo) := f10.keep c14_0 (ninS ne nin0)
  have f18 : Fld Z T14.heap b "com/example/brelok/brelok/perf/Timing$Measure" "lostUpdates" "J" (.long ml) := f11.keep c14_0 (ninS ne nin0)
  have f19 : Exa Z T14.heap a "com/example/brelok/brelok/perf/Tally" := c14_1
  have f20 : Fld Z T14.heap a "com/example/brelok/brelok/perf/Tally" "excludes" "Z" (.int ex) := c14_2
  have f21 : Fld Z T14.heap a "com/example/brelok/brelok/perf/Tally" "waiting" "D" (.double fg) := c14_3
  have f22 : Fld Z T14.heap a "com/example/brelok/brelok/perf/Tally" "overlaps" "J" (.long (ov + mo)) := c14_4
  have f23 : Fld Z T14.heap a "com/example/brelok/brelok/perf/Tally" "lostUpdates" "J" (.long (lu + ml)) := c14_5
  obtain ⟨fs, hr, hrun, hended, hW, hsame⟩ := X14.leave (v := none) (fun _ => rfl)
  refine ⟨_, _, pre0 _ ?_, hrun, hended, _, _, rfl, ?_, ⟨_, rfl⟩, hW, hsame.mono (by decide) (by decide)⟩
  · show Steps p.tables e below (s₁.setTop (mkF m 0 #[.val (.ref a), .val (.ref b)] [])) _
    refine sg1 _ ?_
    refine st2.trans ?_
    refine st3 _ ?_
    refine sg13 _ ?_
    refine st14.trans ?_
    show Steps p.tables e below (T14.setTop (mkF m 13 #[.val (.ref a), .val (.ref b)] [])) _
    exact X14.returnOut hx Bd.returns (hb hby d27_13) hr
  · show Q_rm27 Z a b ex wt ov lu fg mo ml h0 n0 _ T14.heap _
    exact ⟨rfl, N14, K14, f19, f20, f21, f22, f23⟩
theorem d14_0 : decode prog_34_method_5_code 0 = .ok (.aload_n 0, 1) := by decide +kernel
theorem d14_1 : decode prog_34_method_5_code 1 = .ok (.getfield 16, 3) := by decide +kernel
theorem d14_4 : decode prog_34_method_5_code 4 = .ok (.aload_n 1, 1) := by decide +kernel
theorem d14_5 : decode prog_34_method_5_code 5 = .ok (.invokevirtual 39, 3) := by decide +kernel
theorem d14_8 : decode prog_34_method_5_code 8 = .ok (.invokestatic 27, 3) := by decide +kernel
theorem pd_6 : parseMethodDescriptor "(D)Ljava/lang/Double;" = some ⟨[.double], some (.object "java/lang/Double")⟩ := by decide +kernel
theorem d14_11 : decode prog_34_method_5_code 11 = .ok (.invokeinterface 33 2, 5) := by decide +kernel
theorem pd_12 : parseMethodDescriptor "(Ljava/lang/Object;)Z" = some ⟨[(.object "java/lang/Object")], some .boolean⟩ := by decide +kernel
theorem d14_16 : decode prog_34_method_5_code 16 = .ok (.pop, 1) := by decide +kernel
theorem d14_17 : decode prog_34_method_5_code 17 = .ok (.aload_n 0, 1) := by decide +kernel
theorem d14_18 : decode prog_34_method_5_code 18 = .ok (.aload_n 1, 1) := by decide +kernel
theorem d14_19 : decode prog_34_method_5_code 19 = .ok (.invokevirtual 45, 3) := by decide +kernel
theorem d14_22 : decode prog_34_method_5_code 22 = .ok (.return_, 1) := by decide +kernel
theorem pn_14 : plainName "com/example/brelok/brelok/perf/Tally" = true := by first | (simp [plainName, overriddenIn]; done) | decide +kernel
theorem ef_rm14 (m : MethodId) (x0 : Addr) (x1 : Addr) : entryFrame m #[(.ref x0), (.ref x1)] 2 = mkF m 0 #[.val (.ref x0), .val (.ref x1)] [] := by first | (simp [entryFrame, mkF, argsToLocals, Value.category]; done) | rfl
def Q_rm14 (Z : State) (a : Addr) (b : Addr) (ex : Int32) (wt : UInt64) (ov : Int64) (lu : Int64) (fg : UInt64) (mo : Int64) (ml : Int64) (lc : Addr) (mc : Int32) (d0 : Addr) (kd : ClassId) (h0 : Heap) (n0 : Nat) (rv : Option Value) (h : Heap) (L : List Loc) : Prop := rv = none ∧ Fr n0 L ∧ Keep h0 h [lc, a] ∧ Exa Z h a "com/example/brelok/brelok/perf/Tally" ∧ Fld Z h a "com/example/brelok/brelok/perf/Tally" "excludes" "Z" (.int ex) ∧ Fld Z h a "com/example/brelok/brelok/perf/Tally" "waiting" "D" (.double wt) ∧ Fld Z h a "com/example/brelok/brelok/perf/Tally" "overlaps" "J" (.long (ov + mo)) ∧ Fld Z h a "com/example/brelok/brelok/perf/Tally" "lostUpdates" "J" (.long (lu + ml))
set_option maxRecDepth 65536 in
set_option maxHeartbeats 40000000 in
theorem rm14 (l : Launch) (Z : State) (a0 : Array Value) (hw : ∀ d ∈ tables_1, d.before a0 Z = true) (ws : List Jvm.Cond) (a : Addr) (b : Addr) (ex : Int32) (wt : UInt64) (ov : Int64) (lu : Int64) (fg : UInt64) (mo : Int64) (ml : Int64) (lc : Addr) (mc : Int32) (d0 : Addr) (kd : ClassId) (h0 : Heap) (n0 : Nat) (Z0 : n0 ≤ h0.size) (E_a : Exa Z h0 a "com/example/brelok/brelok/perf/Tally") (F_x : Fld Z h0 a "com/example/brelok/brelok/perf/Tally" "excludes" "Z" (.int ex)) (F_w : Fld Z h0 a "com/example/brelok/brelok/perf/Tally" "waiting" "D" (.double wt)) (F_o : Fld Z h0 a "com/example/brelok/brelok/perf/Tally" "overlaps" "J" (.long ov)) (F_l : Fld Z h0 a "com/example/brelok/brelok/perf/Tally" "lostUpdates" "J" (.long lu)) (g_a : n0 ≤ a) (E_b : Exa Z h0 b "com/example/brelok/brelok/perf/Timing$Measure") (G1 : Fld Z h0 b "com/example/brelok/brelok/perf/Timing$Measure" "figure" "D" (.double fg)) (G2 : Fld Z h0 b "com/example/brelok/brelok/perf/Timing$Measure" "overlaps" "J" (.long mo)) (G3 : Fld Z h0 b "com/example/brelok/brelok/perf/Timing$Measure" "lostUpdates" "J" (.long ml)) (F_c : Fld Z h0 a "com/example/brelok/brelok/perf/Tally" "contended" "Ljava/util/List;" (.ref lc)) (E_l : Exa Z h0 lc "java/util/ArrayList") (F1 : Fld Z h0 lc "java/util/AbstractList" "modCount" "I" (.int mc)) (F2 : Fld Z h0 lc "java/util/ArrayList" "elementData" "[Ljava/lang/Object;" (.ref d0)) (F3 : Fld Z h0 lc "java/util/ArrayList" "size" "I" (.int (0 : Int32))) (g_l : n0 ≤ lc) (ne : b ≠ a) (ne2 : a ≠ lc) (ne3 : b ≠ lc) (O : Old Z n0 h0) (S0 : Sta Z Z.heap "java/util/ArrayList" "DEFAULTCAPACITY_EMPTY_ELEMENTDATA" "[Ljava/lang/Object;" (.ref d0)) (V0 : Arv Z Z.heap d0 kd own_OT (0 : Int32) [] .null) :
    MetFree l (⟨"com/example/brelok/brelok/perf/Tally", "addContended", "(Lcom/example/brelok/brelok/perf/Timing$Measure;)V"⟩ : MethodName) (head1 (Jvm.Cond.code (⟨"com/example/brelok/brelok/perf/Tally", "addContended", "(Lcom/example/brelok/brelok/perf/Timing$Measure;)V"⟩ : MethodName) prog_34_method_5_code 2 none :: ws) ({ frames := 5, cells := 2, slots := 11, locals := 69 } : Room)) (fun av U => av = #[(.ref a), (.ref b)] ∧ Z.Warmed39 U.vm ∧ U.heap = h0) (fun _ _ _ _ _ => True) (fun _ U o U' => ∃ rv L, o = .returned rv ∧ Q_rm14 Z a b ex wt ov lu fg mo ml lc mc d0 kd h0 n0 rv U'.heap L ∧ FrameEnd U o U' L ({ frames := 5, cells := 2, slots := 11, locals := 69 } : Room).cells ({ frames := 5, cells := 2, slots := 11, locals := 69 } : Room).slots) := by
  refine MetFree.of_bodySF (plainFor_of_name pn_14) hisR ?_
  intro p e s m args below meth c s₁ Bd hml0 hP hK
  obtain ⟨rfl, hZ, hh⟩ := hP
  have hx := Bd.exec
  have hby := Bd.bytes
  have hml : c.maxLocals = 2 := hml0
  have hown : s.vm.findClass "com/example/brelok/brelok/perf/Tally" = some m.cls := findClass_of_methodNamed Bd.named
  have hnm := (name_of_methodNamed Bd.named Bd.method).1
  have X0 : Stand p l e ({ frames := 5, cells := 2, slots := 11, locals := 69 } : Room) s m #[(.ref a), (.ref b)] below meth c s₁ [] 0 0 := Stand.of_body Bd
  have e0 : s₁.heap = h0 := by rw [← hh, Bd.state]; rfl
  have N0 := Fr.nil n0
  have pre0 : ∀ t, Steps p.tables e below (s₁.setTop (mkF m 0 #[.val (.ref a), .val (.ref b)] [])) t → Steps p.tables e below (s₁.setTop (entryFrame m #[(.ref a), (.ref b)] 2)) t := fun t k => castTop (ef_rm14 m a b) k
  have sg1 : ∀ target, Steps p.tables e below (s₁.setTop (mkF m 1 #[.val (.ref a), .val (.ref b)] [(.ref a)])) target → Steps p.tables e below (s₁.setTop (mkF m 0 #[.val (.ref a), .val (.ref b)] [])) target := by
    intro target kt
    show Steps p.tables e below (s₁.setTop (mkF m 0 #[.val (.ref a), .val (.ref b)] [])) _
    refine XS.aloadN X0.here hx rfl (hb hby d14_0) rfl rfl ?_
    exact kt
  obtain ⟨T2, X2, e2, st2⟩ := getF X0 hx hZ hown (host := "") (Or.inl (hw _ (List.mem_of_getElem? (i := 83) rfl))) Via.refl e0 F_c (g := (mkF m 1 #[.val (.ref a), .val (.ref b)] [(.ref a)])) rfl rfl (hb hby d14_1)
  have sg3 : ∀ target, Steps p.tables e below (T2.setTop (mkF m 5 #[.val (.ref a), .val (.ref b)] [(.ref b), (.ref lc)])) target → Steps p.tables e below (T2.setTop (mkF m 4 #[.val (.ref a), .val (.ref b)] [(.ref lc)])) target := by
    intro target kt
    show Steps p.tables e below (T2.setTop (mkF m 4 #[.val (.ref a), .val (.ref b)] [(.ref lc)])) _
    refine XS.aloadN X2.here hx rfl (hb hby d14_4) rfl rfl ?_
    exact kt
  obtain ⟨cq4, kq4, q4a, q4b, q4c⟩ := isOf hZ e2 E_b
  obtain ⟨_, _, ⟨T4, L4, k4, n4⟩, -, X4, ⟨Lc4, hQ4, l4, y4, z4⟩, st4⟩ := X2.virtualBack hx (y := (⟨"com/example/brelok/brelok/perf/Timing$Measure", "figure", "()D"⟩ : MethodName)) (z := (⟨"com/example/brelok/brelok/perf/Timing$Measure", "figure", "()D"⟩ : MethodName)) hown (mvT hZ (hw _ (List.mem_of_getElem? (i := 99) rfl))) (mvT hZ (hw _ (List.mem_of_getElem? (i := 100) rfl))) (notFace_of_selects (args := #[]) (mvT hZ (hw _ (List.mem_of_getElem? (i := 102) rfl)))) (mvT hZ (hw _ (List.mem_of_getElem? (i := 102) rfl))) (mvT hZ (hw _ (List.mem_of_getElem? (i := 101) rfl))) (by decide) (backOf (W := 1) (rm15 l Z a0 hw [] b fg h0 n0 Z0 G1) hZ (hw _ (List.mem_of_getElem? (i := 103) rfl)) (hw _ (List.mem_of_getElem? (i := 5) rfl)) (by decide) (by decide)) q4a q4c (g := (mkF m 5 #[.val (.ref a), .val (.ref b)] [(.ref b), (.ref lc)])) rfl (by rw [hml]; rfl) (Steps.refl _) (argsL := []) (rest := [(.ref lc)]) (lenOf pd_1 rfl) rfl (by show 2 * 0 + _ ≤ _; exact Nat.le_of_eq rfl) (hb hby d14_5) (fun _ _ => ⟨rfl, e2, (by decide : 0 + 0 ≤ _), (by decide : 0 + 0 ≤ _)⟩)
  dsimp only [Pt.U, Pt.locs, Pt.cells, Pt.slots] at X4 l4 y4 z4 st4 hQ4
  subst l4 y4 z4
  obtain ⟨rfl, N4q, c4_0⟩ := hQ4
  have N4 := Fr.app N0 N4q
  obtain ⟨_, _, ⟨T5, L5, k5, n5⟩, -, X5, ⟨Lc5, hQ5, l5, y5, z5⟩, st5⟩ := Jvm.LawKit.callS X4 hx (y := (⟨"java/lang/Double", "valueOf", "(D)Ljava/lang/Double;"⟩ : MethodName)) hown (mvT hZ (hw _ (List.mem_of_getElem? (i := 104) rfl))) (mvT hZ (hw _ (List.mem_of_getElem? (i := 105) rfl))) (mvT hZ (hw _ (List.mem_of_getElem? (i := 106) rfl))) (mvT hZ (hw _ (List.mem_of_getElem? (i := 107) rfl))) (by decide) (backOf (W := 1) (rm16 l Z a0 hw [] fg h0 n0 Z0 ) hZ (hw _ (List.mem_of_getElem? (i := 107) rfl)) (hw _ (List.mem_of_getElem? (i := 106) rfl)) (by decide) (by decide)) (g := (mkF m 8 #[.val (.ref a), .val (.ref b)] [(.double fg), (.ref lc)])) rfl (by rw [hml]; rfl) (argsL := [(.double fg)]) (rest := [(.ref lc)]) (lenOf pd_6 rfl) rfl (by show 2 * 0 + _ ≤ _; exact Nat.le_of_eq rfl) (hb hby d14_8) (fun _ _ => ⟨rfl, c4_0, (by decide : 0 + 1 ≤ _), (by decide : 0 + 1 ≤ _)⟩)
  dsimp only [Pt.U, Pt.locs, Pt.cells, Pt.slots] at X5 l5 y5 z5 st5 hQ5
  subst l5 y5 z5
  obtain ⟨b_5, rfl, N5q, c5_0, c5_1, c5_2, c5_3⟩ := hQ5
  have N5 := Fr.app N4 N5q
  have Zs5 : n0 ≤ T5.heap.size := Nat.le_trans Z0 c5_2.1
  have ne_a_b_5 : a ≠ b_5 := Nat.ne_of_lt (Nat.lt_of_lt_of_le E_a.lt c5_0)
  have ne_b_b_5 : b ≠ b_5 := Nat.ne_of_lt (Nat.lt_of_lt_of_le E_b.lt c5_0)
  have ne_lc_b_5 : lc ≠ b_5 := Nat.ne_of_lt (Nat.lt_of_lt_of_le E_l.lt c5_0)
  have sz_b_5 : h0.size ≤ b_5 := Nat.le_trans (Keep.refl h0 [lc, a]).1 c5_0
  have K5 : Keep h0 T5.heap [lc, a] := (Keep.refl h0 [lc, a]).trans c5_2 all0
  have f6 : Exa Z T5.heap a "com/example/brelok/brelok/perf/Tally" := E_a.keep c5_2
  have f7 : Fld Z T5.heap a "com/example/brelok/brelok/perf/Tally" "excludes" "Z" (.int ex) := F_x.keep c5_2 nin0
  have f8 : Fld Z T5.heap a "com/example/brelok/brelok/perf/Tally" "waiting" "D" (.double wt) := F_w.keep c5_2 nin0
  have f9 : Fld Z T5.heap a "com/example/brelok/brelok/perf/Tally" "overlaps" "J" (.long ov) := F_o.keep c5_2 nin0
  have f10 : Fld Z T5.heap a "com/example/brelok/brelok/perf/Tally" "lostUpdates" "J" (.long lu) := F_l.keep c5_2 nin0
  have f11 : Exa Z T5.heap b "com/example/brelok/brelok/perf/Timing$Measure" := E_b.keep c5_2
  have f12 : Fld Z T5.heap b "com/example/brelok/brelok/perf/Timing$Measure" "figure" "D" (.double fg) := G1.keep c5_2 nin0
  have f13 : Fld Z T5.heap b "com/example/brelok/brelok/perf/Timing$Measure" "overlaps" "J" (.long mo) := G2.keep c5_2 nin0
  have f14 : Fld Z T5.heap b "com/example/brelok/brelok/perf/Timing$Measure" "lostUpdates" "J" (.long ml) := G3.keep c5_2 nin0
  have f15 : Fld Z T5.heap a "com/example/brelok/brelok/perf/Tally" "contended" "Ljava/util/List;" (.ref lc) := F_c.keep c5_2 nin0
  have f16 : Exa Z T5.heap lc "java/util/ArrayList" := E_l.keep c5_2
  have f17 : Fld Z T5.heap lc "java/util/AbstractList" "modCount" "I" (.int mc) := F1.keep c5_2 nin0
  have f18 : Fld Z T5.heap lc "java/util/ArrayList" "elementData" "[Ljava/lang/Object;" (.ref d0) := F2.keep c5_2 nin0
  have f19 : Fld Z T5.heap lc "java/util/ArrayList" "size" "I" (.int (0 : Int32)) := F3.keep c5_2 nin0
  have f20 : Old Z n0 T5.heap := O.keep c5_2 all0
  have f21 : Exa Z T5.heap b_5 "java/lang/Double" := c5_3
  obtain ⟨cq22, kq22, q22a, q22b, q22c⟩ := isOf hZ rfl f16
  obtain ⟨_, _, ⟨T22, L22, k22, n22⟩, -, X22, ⟨Lc22, hQ22, l22, y22, z22⟩, st22⟩ := X5.interfaceBack hx (xi := (⟨"java/util/List", "add", "(Ljava/lang/Object;)Z"⟩ : MethodName)) (y := (⟨"java/util/ArrayList", "add", "(Ljava/lang/Object;)Z"⟩ : MethodName)) hown (mvT hZ (hw _ (List.mem_of_getElem? (i := 123) rfl))) (mvT hZ (hw _ (List.mem_of_getElem? (i := 124) rfl))) (mvT hZ (hw _ (List.mem_of_getElem? (i := 125) rfl))) (mvT hZ (hw _ (List.mem_of_getElem? (i := 126) rfl))) (mvT hZ (hw _ (List.mem_of_getElem? (i := 127) rfl))) (mvT hZ (hw _ (List.mem_of_getElem? (i := 128) rfl))) (mvT hZ (hw _ (List.mem_of_getElem? (i := 129) rfl))) (mvT hZ (hw _ (List.mem_of_getElem? (i := 130) rfl))) (by decide) (backOf (W := 0) (rm19 l Z a0 hw [] lc b_5 d0 kd mc T5.heap n0 Zs5 f16 f18 f19 g_l f20 S0 V0 f17 f21 (Ne.symm ne_lc_b_5)) hZ (hw _ (List.mem_of_getElem? (i := 131) rfl)) (hw _ (List.mem_of_getElem? (i := 59) rfl)) (by decide) (by decide)) q22a q22b q22c (g := (mkF m 11 #[.val (.ref a), .val (.ref b)] [(.ref b_5), (.ref lc)])) rfl (by rw [hml]; rfl) (Steps.refl _) (argsL := [(.ref b_5)]) (rest := []) (lenOf pd_12 rfl) rfl (by show 2 * 0 + _ ≤ _; exact Nat.le_of_eq rfl) (hb hby d14_11) (fun _ _ => ⟨rfl, rfl, (by decide : 1 + 1 ≤ _), (by decide : 1 + 10 ≤ _)⟩)
  dsimp only [Pt.U, Pt.locs, Pt.cells, Pt.slots] at X22 l22 y22 z22 st22 hQ22
  subst l22 y22 z22
  obtain ⟨rfl, N22q, c22_0⟩ := hQ22
  have N22 := Fr.app N5 N22q
  have Zs22 : n0 ≤ T22.heap.size := Nat.le_trans Zs5 c22_0.1
  have K22 : Keep h0 T22.heap [lc, a] := K5.trans c22_0 (allS (Or.inl (List.mem_of_getElem? (i := 0) rfl)) all0)
  have f23 : Exa Z T22.heap a "com/example/brelok/brelok/perf/Tally" := f6.keep c22_0
  have f24 : Fld Z T22.heap a "com/example/brelok/brelok/perf/Tally" "excludes" "Z" (.int ex) := f7.keep c22_0 (ninS ne2 nin0)
  have f25 : Fld Z T22.heap a "com/example/brelok/brelok/perf/Tally" "waiting" "D" (.double wt) := f8.keep c22_0 (ninS ne2 nin0)
  have f26 : Fld Z T22.heap a "com/example/brelok/brelok/perf/Tally" "overlaps" "J" (.long ov) := f9.keep c22_0 (ninS ne2 nin0)
  have f27 : Fld Z T22.heap a "com/example/brelok/brelok/perf/Tally" "lostUpdates" "J" (.long lu) := f10.keep c22_0 (ninS ne2 nin0)
  have f28 : Exa Z T22.heap b "com/example/brelok/brelok/perf/Timing$Measure" := f11.keep c22_0
  have f29 : Fld Z T22.heap b "com/example/brelok/brelok/perf/Timing$Measure" "figure" "D" (.double fg) := f12.keep c22_0 (ninS ne3 nin0)
  have f30 : Fld Z T22.heap b "com/example/brelok/brelok/perf/Timing$Measure" "overlaps" "J" (.long mo) := f13.keep c22_0 (ninS ne3 nin0)
  have f31 : Fld Z T22.heap b "com/example/brelok/brelok/perf/Timing$Measure" "lostUpdates" "J" (.long ml) := f14.keep c22_0 (ninS ne3 nin0)
  have f32 : Fld Z T22.heap a "com/example/brelok/brelok/perf/Tally" "contended" "Ljava/util/List;" (.ref lc) := f15.keep c22_0 (ninS ne2 nin0)
  have f33 : Exa Z T22.heap lc "java/util/ArrayList" := f16.keep c22_0
  have f34 : Old Z n0 T22.heap := f20.keep c22_0 (allS g_l all0)
  have f35 : Exa Z T22.heap b_5 "java/lang/Double" := f21.keep c22_0
  have sg36 : ∀ target, Steps p.tables e below (T22.setTop (mkF m 19 #[.val (.ref a), .val (.ref b)] [(.ref b), (.ref a)])) target → Steps p.tables e below (T22.setTop (mkF m 16 #[.val (.ref a), .val (.ref b)] [(.int (1 : Int32))])) target := by
    intro target kt
    show Steps p.tables e below (T22.setTop (mkF m 16 #[.val (.ref a), .val (.ref b)] [(.int (1 : Int32))])) _
    refine XS.pop X22.here hx rfl (hb hby d14_16) rfl rfl ?_
    show Steps p.tables e below (T22.setTop (mkF m 17 #[.val (.ref a), .val (.ref b)] [])) _
    refine XS.aloadN X22.here hx rfl (hb hby d14_17) rfl rfl ?_
    show Steps p.tables e below (T22.setTop (mkF m 18 #[.val (.ref a), .val (.ref b)] [(.ref a)])) _
    refine XS.aloadN X22.here hx rfl (hb hby d14_18) rfl rfl ?_
    exact kt
  obtain ⟨cq37, q37, q37'⟩ := f23.cell
  obtain ⟨_, _, ⟨T37, L37, k37, n37⟩, -, X37, ⟨Lc37, hQ37, l37, y37, z37⟩, st37⟩ := X22.privateBack hx (y := (⟨"com/example/brelok/brelok/perf/Tally", "addExclusion", "(Lcom/example/brelok/brelok/perf/Timing$Measure;)V"⟩ : MethodName)) hown (mvT hZ (hw _ (List.mem_of_getElem? (i := 158) rfl))) (mvT hZ (hw _ (List.mem_of_getElem? (i := 159) rfl))) (own_selp (by decide) (mvT hZ (hw _ (List.mem_of_getElem? (i := 24) rfl))) (mvP hZ (hw _ (List.mem_of_getElem? (i := 160) rfl))) (mvT hZ (hw _ (List.mem_of_getElem? (i := 159) rfl)))) (Cond.privateMethod_at (mvP hZ (hw _ (List.mem_of_getElem? (i := 160) rfl)) (args := #[]))) (mvT hZ (hw _ (List.mem_of_getElem? (i := 161) rfl))) (by decide) (backOf (W := 0) (rm24 l Z a0 hw [] a b ex wt ov lu fg mo ml T22.heap n0 Zs22 f23 f24 f25 f26 f27 g_a f28 f29 f30 f31 ne) hZ (hw _ (List.mem_of_getElem? (i := 161) rfl)) (hw _ (List.mem_of_getElem? (i := 25) rfl)) (by decide) (by decide)) (g := (mkF m 19 #[.val (.ref a), .val (.ref b)] [(.ref b), (.ref a)])) rfl (by rw [hml]; rfl) (Steps.refl _) (a := a) q37 q37' (argsL := [(.ref b)]) (rest := []) (lenOf pd_11 rfl) rfl (by show 2 * 0 + _ ≤ _; exact Nat.le_of_eq rfl) (hb hby d14_19) (fun _ _ => ⟨rfl, rfl, (by decide : 2 + 0 ≤ _), (by decide : 11 + 0 ≤ _)⟩)
  dsimp only [Pt.U, Pt.locs, Pt.cells, Pt.slots] at X37 l37 y37 z37 st37 hQ37
  subst l37 y37 z37
  obtain ⟨rfl, N37q, c37_0, c37_1, c37_2, c37_3, c37_4, c37_5⟩ := hQ37
  have N37 := Fr.app N22 N37q
  have Zs37 : n0 ≤ T37.heap.size := Nat.le_trans Zs22 c37_0.1
  have K37 : Keep h0 T37.heap [lc, a] := K22.trans c37_0 (allS (Or.inl (List.mem_of_getElem? (i := 1) rfl)) all0)
  have f38 : Exa Z T37.heap b "com/example/brelok/brelok/perf/Timing$Measure" := f28.keep c37_0
  have f39 : Fld Z T37.heap b "com/example/brelok/brelok/perf/Timing$Measure" "figure" "D" (.double fg) := f29.keep c37_0 (ninS ne nin0)
  have f40 : Fld Z T37.heap b "com/example/brelok/brelok/perf/Timing$Measure" "overlaps" "J" (.long mo) := f30.keep c37_0 (ninS ne nin0)
  have f41 : Fld Z T37.heap b "com/example/brelok/brelok/perf/Timing$Measure" "lostUpdates" "J" (.long ml) := f31.keep c37_0 (ninS ne nin0)
  have f42 : Exa Z T37.heap lc "java/util/ArrayList" := f33.keep c37_0
  have f43 : Old Z n0 T37.heap := f34.keep c37_0 (allS g_a all0)
  have f44 : Exa Z T37.heap b_5 "java/lang/Double" := f35.keep c37_0
  have f45 : Exa Z T37.heap a "com/example/brelok/brelok/perf/Tally" := c37_1
  have f46 : Fld Z T37.heap a "com/example/brelok/brelok/perf/Tally" "excludes" "Z" (.int ex) := c37_2
  have f47 : Fld Z T37.heap a "com/example/brelok/brelok/perf/Tally" "waiting" "D" (.double wt) := c37_3
  have f48 : Fld Z T37.heap a "com/example/brelok/brelok/perf/Tally" "overlaps" "J" (.long (ov + mo)) := c37_4
  have f49 : Fld Z T37.heap a "com/example/brelok/brelok/perf/Tally" "lostUpdates" "J" (.long (lu + ml)) := c37_5
  obtain ⟨fs, hr, hrun, hended, hW, hsame⟩ := X37.leave (v := none) (fun _ => rfl)
  refine ⟨_, _, pre0 _ ?_, hrun, hended, _, _, rfl, ?_, ⟨_, rfl⟩, hW, hsame.mono (by decide) (by decide)⟩
  · show Steps p.tables e below (s₁.setTop (mkF m 0 #[.val (.ref a), .val (.ref b)] [])) _
    refine sg1 _ ?_
    refine st2 _ ?_
    refine sg3 _ ?_
    refine st4.trans ?_
    refine st5 _ ?_
    refine st22.trans ?_
    refine sg36 _ ?_
    refine st37.trans ?_
    show Steps p.tables e below (T37.setTop (mkF m 22 #[.val (.ref a), .val (.ref b)] [])) _
    exact X37.returnOut hx Bd.returns (hb hby d14_22) hr
  · show Q_rm14 Z a b ex wt ov lu fg mo ml lc mc d0 kd h0 n0 _ T37.heap _
    exact ⟨rfl, N37, K37, f45, f46, f47, f48, f49⟩
def own_vf (ex : Int32) (ov lu : Int64) : Int32 := (if ex = (0 : Int32) then (0 : Int32) else (if (0 : Int32) < (lcmpW ov (0 : Int64)) then (1 : Int32) else (if (0 : Int32) < (lcmpW lu (0 : Int64)) then (1 : Int32) else (0 : Int32))))
theorem d13_0 : decode prog_34_method_7_code 0 = .ok (.aload_n 0, 1) := by decide +kernel
theorem d13_1 : decode prog_34_method_7_code 1 = .ok (.getfield 23, 3) := by decide +kernel
theorem d13_4 : decode prog_34_method_7_code 4 = .ok (.ifCond .eq 25, 3) := by decide +kernel
theorem d13_29 : decode prog_34_method_7_code 29 = .ok (.iconst 0, 1) := by decide +kernel
theorem d13_30 : decode prog_34_method_7_code 30 = .ok (.ireturn, 1) := by decide +kernel
theorem d13_7 : decode prog_34_method_7_code 7 = .ok (.aload_n 0, 1) := by decide +kernel
theorem d13_8 : decode prog_34_method_7_code 8 = .ok (.getfield 53, 3) := by decide +kernel
theorem d13_11 : decode prog_34_method_7_code 11 = .ok (.lconst 0, 1) := by decide +kernel
theorem d13_12 : decode prog_34_method_7_code 12 = .ok (.lcmp, 1) := by decide +kernel
theorem d13_13 : decode prog_34_method_7_code 13 = .ok (.ifCond .gt 12, 3) := by decide +kernel
theorem d13_25 : decode prog_34_method_7_code 25 = .ok (.iconst 1, 1) := by decide +kernel
theorem d13_26 : decode prog_34_method_7_code 26 = .ok (.goto 4, 3) := by decide +kernel
theorem d13_16 : decode prog_34_method_7_code 16 = .ok (.aload_n 0, 1) := by decide +kernel
theorem d13_17 : decode prog_34_method_7_code 17 = .ok (.getfield 57, 3) := by decide +kernel
theorem d13_20 : decode prog_34_method_7_code 20 = .ok (.lconst 0, 1) := by decide +kernel
theorem d13_21 : decode prog_34_method_7_code 21 = .ok (.lcmp, 1) := by decide +kernel
theorem d13_22 : decode prog_34_method_7_code 22 = .ok (.ifCond .le 7, 3) := by decide +kernel
theorem pn_13 : plainName "com/example/brelok/brelok/perf/Tally" = true := by first | (simp [plainName, overriddenIn]; done) | decide +kernel
theorem ef_rm13 (m : MethodId) (x0 : Addr) : entryFrame m #[(.ref x0)] 1 = mkF m 0 #[.val (.ref x0)] [] := by first | (simp [entryFrame, mkF, argsToLocals, Value.category]; done) | rfl
def Q_rm13 (Z : State) (a : Addr) (ex : Int32) (ov : Int64) (lu : Int64) (h0 : Heap) (n0 : Nat) (rv : Option Value) (h : Heap) (L : List Loc) : Prop := rv = some (.int (own_vf ex ov lu)) ∧ Fr n0 L ∧ h = h0
set_option maxRecDepth 65536 in
set_option maxHeartbeats 40000000 in
theorem rm13 (l : Launch) (Z : State) (a0 : Array Value) (hw : ∀ d ∈ tables_1, d.before a0 Z = true) (ws : List Jvm.Cond) (a : Addr) (ex : Int32) (ov : Int64) (lu : Int64) (h0 : Heap) (n0 : Nat) (Z0 : n0 ≤ h0.size) (F_x : Fld Z h0 a "com/example/brelok/brelok/perf/Tally" "excludes" "Z" (.int ex)) (F_o : Fld Z h0 a "com/example/brelok/brelok/perf/Tally" "overlaps" "J" (.long ov)) (F_l : Fld Z h0 a "com/example/brelok/brelok/perf/Tally" "lostUpdates" "J" (.long lu)) :
    MetFree l (⟨"com/example/brelok/brelok/perf/Tally", "failedToExclude", "()Z"⟩ : MethodName) (head1 (Jvm.Cond.code (⟨"com/example/brelok/brelok/perf/Tally", "failedToExclude", "()Z"⟩ : MethodName) prog_34_method_7_code 1 (some .boolean) :: ws) ({ frames := 0, cells := 0, slots := 0, locals := 0 } : Room)) (fun av U => av = #[(.ref a)] ∧ Z.Warmed39 U.vm ∧ U.heap = h0) (fun _ _ _ _ _ => True) (fun _ U o U' => ∃ rv L, o = .returned rv ∧ Q_rm13 Z a ex ov lu h0 n0 rv U'.heap L ∧ FrameEnd U o U' L ({ frames := 0, cells := 0, slots := 0, locals := 0 } : Room).cells ({ frames := 0, cells := 0, slots := 0, locals := 0 } : Room).slots) := by
  refine MetFree.of_bodySF (plainFor_of_name pn_13) hisR ?_
  intro p e s m args below meth c s₁ Bd hml0 hP hK
  obtain ⟨rfl, hZ, hh⟩ := hP
  have hx := Bd.exec
  have hby := Bd.bytes
  have hml : c.maxLocals = 1 := hml0
  have hown : s.vm.findClass "com/example/brelok/brelok/perf/Tally" = some m.cls := findClass_of_methodNamed Bd.named
  have hnm := (name_of_methodNamed Bd.named Bd.method).1
  have X0 : Stand p l e ({ frames := 0, cells := 0, slots := 0, locals := 0 } : Room) s m #[(.ref a)] below meth c s₁ [] 0 0 := Stand.of_body Bd
  have e0 : s₁.heap = h0 := by rw [← hh, Bd.state]; rfl
  have N0 := Fr.nil n0
  have pre0 : ∀ t, Steps p.tables e below (s₁.setTop (mkF m 0 #[.val (.ref a)] [])) t → Steps p.tables e below (s₁.setTop (entryFrame m #[(.ref a)] 1)) t := fun t k => castTop (ef_rm13 m a) k
  have sg1 : ∀ target, Steps p.tables e below (s₁.setTop (mkF m 1 #[.val (.ref a)] [(.ref a)])) target → Steps p.tables e below (s₁.setTop (mkF m 0 #[.val (.ref a)] [])) target := by
    intro target kt
    show Steps p.tables e below (s₁.setTop (mkF m 0 #[.val (.ref a)] [])) _
    refine XS.aloadN X0.here hx rfl (hb hby d13_0) rfl rfl ?_
    exact kt
  obtain ⟨T2, X2, e2, st2⟩ := getF X0 hx hZ hown (host := "") (Or.inl (hw _ (List.mem_of_getElem? (i := 87) rfl))) Via.refl e0 F_x (g := (mkF m 1 #[.val (.ref a)] [(.ref a)])) rfl rfl (hb hby d13_1)
  by_cases hx1 : ex = (0 : Int32)
  · have sg3 : ∀ target, Steps p.tables e below (T2.setTop (mkF m 30 #[.val (.ref a)] [(.int (0 : Int32))])) target → Steps p.tables e below (T2.setTop (mkF m 4 #[.val (.ref a)] [(.int ex)])) target := by
      intro target kt
      show Steps p.tables e below (T2.setTop (mkF m 4 #[.val (.ref a)] [(.int ex)])) _
      refine XS.ifYes X2.here hx rfl (pc0 := 4) (pc' := 29) rfl (hb hby d13_4) rfl ((if0 _ _).trans (teq (hx1 : ex = (0 : Int32))).1) (by decide) (by decide) ?_
      show Steps p.tables e below (T2.setTop (mkF m 29 #[.val (.ref a)] [])) _
      refine XS.iconst X2.here hx rfl (hb hby d13_29) ?_
      exact kt
    obtain ⟨fs, hr, hrun, hended, hW, hsame⟩ := X2.leave (v := some (.int (0 : Int32))) (fun h => by rw [Bd.returns] at h; cases h)
    refine ⟨_, _, pre0 _ ?_, hrun, hended, _, _, rfl, ?_, ⟨_, rfl⟩, hW, hsame.mono (by decide) (by decide)⟩
    · show Steps p.tables e below (s₁.setTop (mkF m 0 #[.val (.ref a)] [])) _
      refine sg1 _ ?_
      refine st2 _ ?_
      refine sg3 _ ?_
      show Steps p.tables e below (T2.setTop (mkF m 30 #[.val (.ref a)] [(.int (0 : Int32))])) _
      exact retN X2 hx (t := .boolean) Bd.returns (by simp) (hb hby d13_30) hr
    · show Q_rm13 Z a ex ov lu h0 n0 _ T2.heap _
      rw [e2]
      exact ⟨(by unfold own_vf; rw [if_pos hx1]), N0, rfl⟩
  · have sg4 : ∀ target, Steps p.tables e below (T2.setTop (mkF m 8 #[.val (.ref a)] [(.ref a)])) target → Steps p.tables e below (T2.setTop (mkF m 4 #[.val (.ref a)] [(.int ex)])) target := by
      intro target kt
      show Steps p.tables e below (T2.setTop (mkF m 4 #[.val (.ref a)] [(.int ex)])) _
      refine XS.ifNo X2.here hx rfl (hb hby d13_4) rfl ((if0 _ _).trans (feq (hx1 : ¬ (ex = (0 : Int32)))).1) ?_
      show Steps p.tables e below (T2.setTop (mkF m 7 #[.val (.ref a)] [])) _
      refine XS.aloadN X2.here hx rfl (hb hby d13_7) rfl rfl ?_
      exact kt
    obtain ⟨T5, X5, e5, st5⟩ := getF X2 hx hZ hown (host := "") (Or.inl (hw _ (List.mem_of_getElem? (i := 162) rfl))) Via.refl e2 F_o (g := (mkF m 8 #[.val (.ref a)] [(.ref a)])) rfl rfl (hb hby d13_8)
    have sg6 : ∀ target, Steps p.tables e below (T5.setTop (mkF m 13 #[.val (.ref a)] [(.int (lcmpW ov (0 : Int64)))])) target → Steps p.tables e below (T5.setTop (mkF m 11 #[.val (.ref a)] [(.long ov)])) target := by
      intro target kt
      show Steps p.tables e below (T5.setTop (mkF m 11 #[.val (.ref a)] [(.long ov)])) _
      refine XS.lconst X5.here hx rfl (hb hby d13_11) ?_
      show Steps p.tables e below (T5.setTop (mkF m 12 #[.val (.ref a)] [(.long (0 : Int64)), (.long ov)])) _
      refine XS.lcmp X5.here hx rfl (hb hby d13_12) rfl ?_
      exact kt
    by_cases hx2 : (0 : Int32) < (lcmpW ov (0 : Int64))
    · have sg7 : ∀ target, Steps p.tables e below (T5.setTop (mkF m 30 #[.val (.ref a)] [(.int (1 : Int32))])) target → Steps p.tables e below (T5.setTop (mkF m 13 #[.val (.ref a)] [(.int (lcmpW ov (0 : Int64)))])) target := by
        intro target kt
        show Steps p.tables e below (T5.setTop (mkF m 13 #[.val (.ref a)] [(.int (lcmpW ov (0 : Int64)))])) _
        refine XS.ifYes X5.here hx rfl (pc0 := 13) (pc' := 25) rfl (hb hby d13_13) rfl ((if0 _ _).trans (tlt (hx2 : (0 : Int32) < (lcmpW ov (0 : Int64)))).2.2.1) (by decide) (by decide) ?_
        show Steps p.tables e below (T5.setTop (mkF m 25 #[.val (.ref a)] [])) _
        refine XS.iconst X5.here hx rfl (hb hby d13_25) ?_
        show Steps p.tables e below (T5.setTop (mkF m 26 #[.val (.ref a)] [(.int (1 : Int32))])) _
        refine XS.goto X5.here hx rfl (pc0 := 26) (pc' := 30) rfl (hb hby d13_26) (by decide) (by decide) ?_
        exact kt
      obtain ⟨fs, hr, hrun, hended, hW, hsame⟩ := X5.leave (v := some (.int (1 : Int32))) (fun h => by rw [Bd.returns] at h; cases h)
      refine ⟨_, _, pre0 _ ?_, hrun, hended, _, _, rfl, ?_, ⟨_, rfl⟩, hW, hsame.mono (by decide) (by decide)⟩
      · show Steps p.tables e below (s₁.setTop (mkF m 0 #[.val (.ref a)] [])) _
        refine sg1 _ ?_
        refine st2 _ ?_
        refine sg4 _ ?_
        refine st5 _ ?_
        refine sg6 _ ?_
        refine sg7 _ ?_
        show Steps p.tables e below (T5.setTop (mkF m 30 #[.val (.ref a)] [(.int (1 : Int32))])) _
        exact retN X5 hx (t := .boolean) Bd.returns (by simp) (hb hby d13_30) hr
      · show Q_rm13 Z a ex ov lu h0 n0 _ T5.heap _
        rw [e5]
        exact ⟨(by unfold own_vf; rw [if_neg hx1, if_pos hx2]), N0, rfl⟩
    · have sg8 : ∀ target, Steps p.tables e below (T5.setTop (mkF m 17 #[.val (.ref a)] [(.ref a)])) target → Steps p.tables e below (T5.setTop (mkF m 13 #[.val (.ref a)] [(.int (lcmpW ov (0 : Int64)))])) target := by
        intro target kt
        show Steps p.tables e below (T5.setTop (mkF m 13 #[.val (.ref a)] [(.int (lcmpW ov (0 : Int64)))])) _
        refine XS.ifNo X5.here hx rfl (hb hby d13_13) rfl ((if0 _ _).trans (flt (hx2 : ¬ ((0 : Int32) < (lcmpW ov (0 : Int64))))).2.2.1) ?_
        show Steps p.tables e below (T5.setTop (mkF m 16 #[.val (.ref a)] [])) _
        refine XS.aloadN X5.here hx rfl (hb hby d13_16) rfl rfl ?_
        exact kt
      obtain ⟨T9, X9, e9, st9⟩ := getF X5 hx hZ hown (host := "") (Or.inl (hw _ (List.mem_of_getElem? (i := 169) rfl))) Via.refl e5 F_l (g := (mkF m 17 #[.val (.ref a)] [(.ref a)])) rfl rfl (hb hby d13_17)
      have sg10 : ∀ target, Steps p.tables e below (T9.setTop (mkF m 22 #[.val (.ref a)] [(.int (lcmpW lu (0 : Int64)))])) target → Steps p.tables e below (T9.setTop (mkF m 20 #[.val (.ref a)] [(.long lu)])) target := by
        intro target kt
        show Steps p.tables e below (T9.setTop (mkF m 20 #[.val (.ref a)] [(.long lu)])) _
        refine XS.lconst X9.here hx rfl (hb hby d13_20) ?_
        show Steps p.tables e below (T9.setTop (mkF m 21 #[.val (.ref a)] [(.long (0 : Int64)), (.long lu)])) _
        refine XS.lcmp X9.here hx rfl (hb hby d13_21) rfl ?_
        exact kt
      by_cases hx3 : (0 : Int32) < (lcmpW lu (0 : Int64))
      · have sg12 : ∀ target, Steps p.tables e below (T9.setTop (mkF m 30 #[.val (.ref a)] [(.int (1 : Int32))])) target → Steps p.tables e below (T9.setTop (mkF m 22 #[.val (.ref a)] [(.int (lcmpW lu (0 : Int64)))])) target := by
          intro target kt
          show Steps p.tables e below (T9.setTop (mkF m 22 #[.val (.ref a)] [(.int (lcmpW lu (0 : Int64)))])) _
          refine XS.ifNo X9.here hx rfl (hb hby d13_22) rfl ((if0 _ _).trans (tlt (hx3 : (0 : Int32) < (lcmpW lu (0 : Int64)))).2.2.2) ?_
          show Steps p.tables e below (T9.setTop (mkF m 25 #[.val (.ref a)] [])) _
          refine XS.iconst X9.here hx rfl (hb hby d13_25) ?_
          show Steps p.tables e below (T9.setTop (mkF m 26 #[.val (.ref a)] [(.int (1 : Int32))])) _
          refine XS.goto X9.here hx rfl (pc0 := 26) (pc' := 30) rfl (hb hby d13_26) (by decide) (by decide) ?_
          exact kt
        obtain ⟨fs, hr, hrun, hended, hW, hsame⟩ := X9.leave (v := some (.int (1 : Int32))) (fun h => by rw [Bd.returns] at h; cases h)
        refine ⟨_, _, pre0 _ ?_, hrun, hended, _, _, rfl, ?_, ⟨_, rfl⟩, hW, hsame.mono (by decide) (by decide)⟩
        · show Steps p.tables e below (s₁.setTop (mkF m 0 #[.val (.ref a)] [])) _
          refine sg1 _ ?_
          refine st2 _ ?_
          refine sg4 _ ?_
          refine st5 _ ?_
          refine sg6 _ ?_
          refine sg8 _ ?_
          refine st9 _ ?_
          refine sg10 _ ?_
          refine sg12 _ ?_
          show Steps p.tables e below (T9.setTop (mkF m 30 #[.val (.ref a)] [(.int (1 : Int32))])) _
          exact retN X9 hx (t := .boolean) Bd.returns (by simp) (hb hby d13_30) hr
        · show Q_rm13 Z a ex ov lu h0 n0 _ T9.heap _
          rw [e9]
          exact ⟨(by unfold own_vf; rw [if_neg hx1, if_neg hx2, if_pos hx3]), N0, rfl⟩
      · have sg11 : ∀ target, Steps p.tables e below (T9.setTop (mkF m 30 #[.val (.ref a)] [(.int (0 : Int32))])) target → Steps p.tables e below (T9.setTop (mkF m 22 #[.val (.ref a)] [(.int (lcmpW lu (0 : Int64)))])) target := by
          intro target kt
          show Steps p.tables e below (T9.setTop (mkF m 22 #[.val (.ref a)] [(.int (lcmpW lu (0 : Int64)))])) _
          refine XS.ifYes X9.here hx rfl (pc0 := 22) (pc' := 29) rfl (hb hby d13_22) rfl ((if0 _ _).trans (flt (hx3 : ¬ ((0 : Int32) < (lcmpW lu (0 : Int64))))).2.2.2) (by decide) (by decide) ?_
          show Steps p.tables e below (T9.setTop (mkF m 29 #[.val (.ref a)] [])) _
          refine XS.iconst X9.here hx rfl (hb hby d13_29) ?_
          exact kt
        obtain ⟨fs, hr, hrun, hended, hW, hsame⟩ := X9.leave (v := some (.int (0 : Int32))) (fun h => by rw [Bd.returns] at h; cases h)
        refine ⟨_, _, pre0 _ ?_, hrun, hended, _, _, rfl, ?_, ⟨_, rfl⟩, hW, hsame.mono (by decide) (by decide)⟩
        · show Steps p.tables e below (s₁.setTop (mkF m 0 #[.val (.ref a)] [])) _
          refine sg1 _ ?_
          refine st2 _ ?_
          refine sg4 _ ?_
          refine st5 _ ?_
          refine sg6 _ ?_
          refine sg8 _ ?_
          refine st9 _ ?_
          refine sg10 _ ?_
          refine sg11 _ ?_
          show Steps p.tables e below (T9.setTop (mkF m 30 #[.val (.ref a)] [(.int (0 : Int32))])) _
          exact retN X9 hx (t := .boolean) Bd.returns (by simp) (hb hby d13_30) hr
        · show Q_rm13 Z a ex ov lu h0 n0 _ T9.heap _
          rw [e9]
          exact ⟨(by unfold own_vf; rw [if_neg hx1, if_neg hx2, if_neg hx3]), N0, rfl⟩
def own_ch (q : Int32) : Int32 := ((((q).toUInt32 >>> ((8 : Int32) &&& 31).toUInt32).toInt32 &&& (255 : Int32))).toUInt32.toUInt16.toUInt32.toInt32
theorem own_hlat (q : Int32) : ∀ c ∈ [nar .char (own_ch q)], ¬ c < 0 ∧ ¬ (255 : Int32) < c := by
  intro c hc
  simp only [List.mem_cons, List.not_mem_nil, or_false] at hc
  subst hc
  rw [show nar .char (own_ch q) = ((q).toUInt32 >>> ((8 : Int32) &&& 31).toUInt32).toInt32 &&& 255 from by simp only [nar, own_ch, i2c_mask]]
  have h1 := c_and (((q).toUInt32 >>> ((8 : Int32) &&& 31).toUInt32).toInt32) 255 (by decide)
  rw [show (255 : Int32).toInt = 255 by decide] at h1
  rw [Int32.lt_iff_toInt_lt, Int32.lt_iff_toInt_lt, show (0 : Int32).toInt = 0 by decide, show (255 : Int32).toInt = 255 by decide]
  omega
theorem own_bool {f k z : Int32} (h : z = if (f &&& k) = (0 : Int32) then (0 : Int32) else (1 : Int32)) : nar .boolean z = z := by
  subst h; split <;> decide
theorem own_b62 {f k : Int32} {q z : Int64} (h : z = if (f &&& k) = (0 : Int32) then (q &&& (4611686018427387903 : Int64)) else (0 : Int64)) : 0 ≤ z.toInt ∧ z.toInt < 4611686018427387904 := by
  subst h
  split
  · have h1 := c_maskL q (4611686018427387903 : Int64) 62 (by decide) (by decide)
    rw [h1]
    have := Int.emod_nonneg q.toInt (show ((2 ^ 62 : Nat) : Int) ≠ 0 by decide)
    have := Int.emod_lt_of_pos q.toInt (show (0 : Int) < ((2 ^ 62 : Nat) : Int) by decide)
    omega
  · decide
theorem own_vf_val (ex : Int32) (o l : Int64) : own_vf ex o l = if ex = (0 : Int32) then (0 : Int32) else (if 0 < o.toInt ∨ 0 < l.toInt then (1 : Int32) else (0 : Int32)) := by
  unfold own_vf
  simp only [lw_gt, Int64.lt_iff_toInt_lt, show (0 : Int64).toInt = 0 by decide]
  by_cases h1 : ex = (0 : Int32)
  · rw [if_pos h1, if_pos h1]
  · rw [if_neg h1, if_neg h1]
    by_cases h2 : 0 < o.toInt
    · rw [if_pos h2, if_pos (Or.inl h2)]
    · by_cases h3 : 0 < l.toInt
      · rw [if_neg h2, if_pos h3, if_pos (Or.inr h3)]
      · rw [if_neg h2, if_neg h3, if_neg (by omega)]
theorem own_fresh (ex : Int32) : own_vf ex (0 : Int64) (0 : Int64) = (0 : Int32) := by
  rw [own_vf_val, show (0 : Int64).toInt = 0 by decide]; split
  · rfl
  · rw [if_neg (by omega)]
def own_nz (o l : Int64) : Int32 := if (lcmpW o (0 : Int64)) = (0 : Int32) then (if (lcmpW l (0 : Int64)) = (0 : Int32) then (0 : Int32) else (1 : Int32)) else (1 : Int32)
theorem own_nz_iff {o l : Int64} (ho : 0 ≤ o.toInt) (hl : 0 ≤ l.toInt) : own_nz o l = (0 : Int32) ↔ ¬ (0 < o.toInt ∨ 0 < l.toInt) := by
  unfold own_nz
  simp only [lw_eq, ← Int64.toInt_inj, show (0 : Int64).toInt = 0 by decide]
  by_cases h1 : o.toInt = 0
  · rw [if_pos h1]
    by_cases h2 : l.toInt = 0
    · rw [if_pos h2]; exact ⟨fun _ => by omega, fun _ => rfl⟩
    · rw [if_neg h2]; exact ⟨fun z => absurd z (by decide), fun z => by omega⟩
  · rw [if_neg h1]; exact ⟨fun z => absurd z (by decide), fun z => by omega⟩
theorem own_z64 (o : Int64) : (0 : Int64) + o = o := Int64.zero_add o
theorem own_two {o l u v : Int64} (ho : 0 ≤ o.toInt ∧ o.toInt < 4611686018427387904) (hl : 0 ≤ l.toInt ∧ l.toInt < 4611686018427387904) (hu : 0 ≤ u.toInt ∧ u.toInt < 4611686018427387904) (hv : 0 ≤ v.toInt ∧ v.toInt < 4611686018427387904) (ex : Int32) :
    own_vf ex (((0 : Int64) + o) + u) (((0 : Int64) + l) + v) = if ex = (0 : Int32) then (0 : Int32) else (if own_nz o l = (0 : Int32) then (if own_nz u v = (0 : Int32) then (0 : Int32) else (1 : Int32)) else (1 : Int32)) := by
  rw [own_vf_val, own_z64, own_z64, Jvm.FP.Core.int64_add (a := o) (b := u) (by omega) (by omega), Jvm.FP.Core.int64_add (a := l) (b := v) (by omega) (by omega)]
  simp only [own_nz_iff ho.1 hl.1, own_nz_iff hu.1 hv.1]
  by_cases h1 : ex = (0 : Int32)
  · rw [if_pos h1, if_pos h1]
  · rw [if_neg h1, if_neg h1]
    by_cases h2 : 0 < o.toInt ∨ 0 < l.toInt
    · rw [if_neg (show ¬ ¬ (0 < o.toInt ∨ 0 < l.toInt) from fun z => z h2), if_pos (show 0 < o.toInt + u.toInt ∨ 0 < l.toInt + v.toInt by omega)]
    · rw [if_pos (show ¬ (0 < o.toInt ∨ 0 < l.toInt) from h2)]
      by_cases h3 : 0 < u.toInt ∨ 0 < v.toInt
      · rw [if_neg (show ¬ ¬ (0 < u.toInt ∨ 0 < v.toInt) from fun z => z h3), if_pos (show 0 < o.toInt + u.toInt ∨ 0 < l.toInt + v.toInt by omega)]
      · rw [if_pos (show ¬ (0 < u.toInt ∨ 0 < v.toInt) from h3), if_neg (show ¬ (0 < o.toInt + u.toInt ∨ 0 < l.toInt + v.toInt) by omega)]
theorem own_one {o l : Int64} (ho : 0 ≤ o.toInt ∧ o.toInt < 4611686018427387904) (hl : 0 ≤ l.toInt ∧ l.toInt < 4611686018427387904) (ex : Int32) :
    own_vf ex ((0 : Int64) + o) ((0 : Int64) + l) = if ex = (0 : Int32) then (0 : Int32) else (if own_nz o l = (0 : Int32) then (0 : Int32) else (1 : Int32)) := by
  rw [own_vf_val, own_z64, own_z64]
  simp only [own_nz_iff ho.1 hl.1]
  by_cases h1 : ex = (0 : Int32)
  · rw [if_pos h1, if_pos h1]
  · rw [if_neg h1, if_neg h1]
    by_cases h2 : 0 < o.toInt ∨ 0 < l.toInt
    · rw [if_neg (show ¬ ¬ (0 < o.toInt ∨ 0 < l.toInt) from fun z => z h2), if_pos h2]
    · rw [if_pos (show ¬ (0 < o.toInt ∨ 0 < l.toInt) from h2), if_neg h2]
theorem own_none (ex : Int32) : own_vf ex (0 : Int64) (0 : Int64) = if ex = (0 : Int32) then (0 : Int32) else (0 : Int32) := by rw [own_fresh]; split <;> rfl
theorem own_len0 {s : State} {args : Array Value} {t : Term} {a : Addr} {c : Cell} {ty : FieldType} (et : t.eval args s none [] s = some (.ref a)) (A : Arr s s.heap a c ty) (h : (Jvm.Cond.eq (Jvm.Term.length t) (Jvm.Term.int 0)).value args s none s [] = some true) : c.slots.size = 0 := by
  have ha : s.arrayAt? a = some c := Arr.fin (State.Warmed39.refl s).alike A
  by_cases p0 : c.slots.size < 2 ^ 31
  · have e := gotT (Cond.eq_ints (len_f et ha p0) (Term.int_eval 0)) h
    have h1 := len_toInt p0
    rw [e, show (0 : Int32).toInt = 0 by decide] at h1
    omega
  · exfalso; simp [Cond.value, Term.eval, et, ha, p0] at h
theorem own_arv0 {s : State} {a : Addr} {c : Cell} {ty : FieldType} (A : Arr s s.heap a c ty) (z : c.slots.size = 0) : Arv s s.heap a c.cls ty (0 : Int32) [] .null :=
  ⟨c, A, rfl, z.trans (by decide), by decide, fun k hk => absurd hk (by omega), fun k hk => absurd hk (by omega)⟩
theorem pd_8 : parseMethodDescriptor "(DJJ)V" = some ⟨[.double, .long, .long], none⟩ := by decide +kernel
theorem pd_16 : parseMethodDescriptor "([C)V" = some ⟨[(.array .char)], none⟩ := by decide +kernel
theorem pd_14 : parseMethodDescriptor "(Ljava/lang/String;Z)V" = some ⟨[(.object "java/lang/String"), .boolean], none⟩ := by decide +kernel
theorem pd_4 : parseMethodDescriptor "()Z" = some ⟨[], some .boolean⟩ := by decide +kernel
theorem pn_0 : plainName "com/example/brelok/brelok/perf/TallyFailedToExcludePinLaw" = true := by first | (simp [plainName, overriddenIn]; done) | decide +kernel
theorem ef_rm0 (m : MethodId) (x0 : Int32) (x1 : Int64) (x2 : Int64) (x3 : Int64) (x4 : Int64) (x5 : Int32) : entryFrame m #[(.int x0), (.long x1), (.long x2), (.long x3), (.long x4), (.int x5)] maxLocals = mkF m 0 #[.val (.int x0), .val (.long x1), .second, .val (.long x2), .second, .val (.long x3), .second, .val (.long x4), .second, .val (.int x5), .unset, .unset, .unset, .unset, .unset, .unset, .unset, .unset, .unset, .unset, .unset, .unset, .unset, .unset, .unset, .unset, .unset, .unset, .unset, .unset, .unset] [] := by first | (simp [entryFrame, mkF, argsToLocals, Value.category, maxLocals]; done) | rfl
def Q_rm0 (Z : State) (p1 : Int32) (q2 : Int64) (q3 : Int64) (q4 : Int64) (q5 : Int64) (p6 : Int32) (d0 : Addr) (kd : ClassId) (G1 : Int32) (h0 : Heap) (n0 : Nat) (rv : Option Value) (h : Heap) (L : List Loc) : Prop := rv = some (.int 1) ∧ Fr n0 L
set_option maxRecDepth 65536 in
set_option maxHeartbeats 40000000 in
theorem rm0 (l : Launch) (Z : State) (a0 : Array Value) (hw : ∀ d ∈ tables_1, d.before a0 Z = true) (ws : List Jvm.Cond) (p1 : Int32) (q2 : Int64) (q3 : Int64) (q4 : Int64) (q5 : Int64) (p6 : Int32) (d0 : Addr) (kd : ClassId) (G1 : Int32) (h0 : Heap) (n0 : Nat) (Z0 : n0 ≤ h0.size) (O : Old Z n0 h0) (S0 : Sta Z Z.heap "java/util/ArrayList" "DEFAULTCAPACITY_EMPTY_ELEMENTDATA" "[Ljava/lang/Object;" (.ref d0)) (V0 : Arv Z Z.heap d0 kd own_OT (0 : Int32) [] .null) (S1 : Sta Z Z.heap "java/lang/String" "COMPACT_STRINGS" "Z" (.int G1)) (P3 : ¬ (G1 = (0 : Int32))) :
    MetFree l x (head1 (Jvm.Cond.code x code maxLocals ret :: ws) room_1) (fun av U => av = #[(.int p1), (.long q2), (.long q3), (.long q4), (.long q5), (.int p6)] ∧ Z.Warmed39 U.vm ∧ U.heap = h0) (fun _ _ _ _ _ => True) (fun _ U o U' => ∃ rv L, o = .returned rv ∧ Q_rm0 Z p1 q2 q3 q4 q5 p6 d0 kd G1 h0 n0 rv U'.heap L ∧ FrameEnd U o U' L room_1.cells room_1.slots) := by
  refine MetFree.of_bodySF (plainFor_of_name pn_0) hisR ?_
  intro p e s m args below meth c s₁ Bd hml0 hP hK
  obtain ⟨rfl, hZ, hh⟩ := hP
  have hx := Bd.exec
  have hby := Bd.bytes
  have hml : c.maxLocals = 31 := hml0
  have hown : s.vm.findClass "com/example/brelok/brelok/perf/TallyFailedToExcludePinLaw" = some m.cls := findClass_of_methodNamed Bd.named
  have hnm := (name_of_methodNamed Bd.named Bd.method).1
  have X0 : Stand p l e room_1 s m #[(.int p1), (.long q2), (.long q3), (.long q4), (.long q5), (.int p6)] below meth c s₁ [] 0 0 := Stand.of_body Bd
  have e0 : s₁.heap = h0 := by rw [← hh, Bd.state]; rfl
  have N0 := Fr.nil n0
  have pre0 : ∀ t, Steps p.tables e below (s₁.setTop (mkF m 0 #[.val (.int p1), .val (.long q2), .second, .val (.long q3), .second, .val (.long q4), .second, .val (.long q5), .second, .val (.int p6), .unset, .unset, .unset, .unset, .unset, .unset, .unset, .unset, .unset, .unset, .unset, .unset, .unset, .unset, .unset, .unset, .unset, .unset, .unset, .unset, .unset] [])) t → Steps p.tables e below (s₁.setTop (entryFrame m #[(.int p1), (.long q2), (.long q3), (.long q4), (.long q5), (.int p6)] maxLocals)) t := fun t k => castTop (ef_rm0 m p1 q2 q3 q4 q5 p6) k
  have sg1 : ∀ target, Steps p.tables e below (s₁.setTop (mkF m 3 #[.val (.int p1), .val (.long q2), .second, .val (.long q3), .second, .val (.long q4), .second, .val (.long q5), .second, .val (.int p6), .unset, .unset, .unset, .unset, .unset, .unset, .unset, .unset, .unset, .unset, .unset, .unset, .unset, .unset, .unset, .unset, .unset, .unset, .unset, .unset, .unset] [(.int (p1 &&& (1 : Int32)))])) target → Steps p.tables e below (s₁.setTop (mkF m 0 #[.val (.int p1), .val (.long q2), .second, .val (.long q3), .second, .val (.long q4), .second, .val (.long q5), .second, .val (.int p6), .unset, .unset, .unset, .unset, .unset, .unset, .unset, .unset, .unset, .unset, .unset, .unset, .unset, .unset, .unset, .unset, .unset, .unset, .unset, .unset, .unset] [])) target := by
    intro target kt
    show Steps p.tables e below (s₁.setTop (mkF m 0 #[.val (.int p1), .val (.long q2), .second, .val (.long q3), .second, .val (.long q4), .second, .val (.long q5), .second, .val (.int p6), .unset, .unset, .unset, .unset, .unset, .unset, .unset, .unset, .unset, .unset, .unset, .unset, .unset, .unset, .unset, .unset, .unset, .unset, .unset, .unset, .unset] [])) _
    refine XS.iloadN X0.here hx rfl (hb hby at_0) rfl ?_
    show Steps p.tables e below (s₁.setTop (mkF m 1 #[.val (.int p1), .val (.long q2), .second, .val (.long q3), .second, .val (.long q4), .second, .val (.long q5), .second, .val (.int p6), .unset, .unset, .unset, .unset, .unset, .unset, .unset, .unset, .unset, .unset, .unset, .unset, .unset, .unset, .unset, .unset, .unset, .unset, .unset, .unset, .unset] [(.int p1)])) _
    refine XS.iconst X0.here hx rfl (hb hby at_1) ?_
    show Steps p.tables e below (s₁.setTop (mkF m 2 #[.val (.int p1), .val (.long q2), .second, .val (.long q3), .second, .val (.long q4), .second, .val (.long q5), .second, .val (.int p6), .unset, .unset, .unset, .unset, .unset, .unset, .unset, .unset, .unset, .unset, .unset, .unset, .unset, .unset, .unset, .unset, .unset, .unset, .unset, .unset, .unset] [(.int (1 : Int32)), (.int p1)])) _
    refine XS.iand X0.here hx rfl (hb hby at_2) rfl ?_
    exact kt
  obtain ⟨ex, q_ex⟩ : ∃ z : Int32, z = (if (p1 &&& (1 : Int32)) = (0 : Int32) then (0 : Int32) else (1 : Int32)) := ⟨_, rfl⟩
  have sg4 : ∀ target, Steps p.tables e below (s₁.setTop (mkF m 11 #[.val (.int p1), .val (.long q2), .second, .val (.long q3), .second, .val (.long q4), .second, .val (.long q5), .second, .val (.int p6), .unset, .unset, .unset, .unset, .unset, .unset, .unset, .unset, .unset, .unset, .unset, .unset, .unset, .unset, .unset, .unset, .unset, .unset, .unset, .unset, .unset] [(.int ex)])) target → Steps p.tables e below (s₁.setTop (mkF m 3 #[.val (.int p1), .val (.long q2), .second, .val (.long q3), .second, .val (.long q4), .second, .val (.long q5), .second, .val (.int p6), .unset, .unset, .unset, .unset, .unset, .unset, .unset, .unset, .unset, .unset, .unset, .unset, .unset, .unset, .unset, .unset, .unset, .unset, .unset, .unset, .unset] [(.int (p1 &&& (1 : Int32)))])) target := by
    intro target kt
    by_cases hj3_3 : (p1 &&& (1 : Int32)) = (0 : Int32)
    · rw [if_pos hj3_3] at q_ex
      rw [q_ex] at kt
      show Steps p.tables e below (s₁.setTop (mkF m 3 #[.val (.int p1), .val (.long q2), .second, .val (.long q3), .second, .val (.long q4), .second, .val (.long q5), .second, .val (.int p6), .unset, .unset, .unset, .unset, .unset, .unset, .unset, .unset, .unset, .unset, .unset, .unset, .unset, .unset, .unset, .unset, .unset, .unset, .unset, .unset, .unset] [(.int (p1 &&& (1 : Int32)))])) _
      refine XS.ifYes X0.here hx rfl (pc0 := 3) (pc' := 10) rfl (hb hby at_3) rfl ((if0 _ _).trans (teq (hj3_3 : (p1 &&& (1 : Int32)) = (0 : Int32))).1) (by decide) (by decide) ?_
      show Steps p.tables e below (s₁.setTop (mkF m 10 #[.val (.int p1), .val (.long q2), .second, .val (.long q3), .second, .val (.long q4), .second, .val (.long q5), .second, .val (.int p6), .unset, .unset, .unset, .unset, .unset, .unset, .unset, .unset, .unset, .unset, .unset, .unset, .unset, .unset, .unset, .unset, .unset, .unset, .unset, .unset, .unset] [])) _
      refine XS.iconst X0.here hx rfl (hb hby at_10) ?_
      exact kt
    · rw [if_neg hj3_3] at q_ex
      rw [q_ex] at kt
      show Steps p.tables e below (s₁.setTop (mkF m 3 #[.val (.int p1), .val (.long q2), .second, .val (.long q3), .second, .val (.long q4), .second, .val (.long q5), .second, .val (.int p6), .unset, .unset, .unset, .unset, .unset, .unset, .unset, .unset, .unset, .unset, .unset, .unset, .unset, .unset, .unset, .unset, .unset, .unset, .unset, .unset, .unset] [(.int (p1 &&& (1 : Int32)))])) _
      refine XS.ifNo X0.here hx rfl (hb hby at_3) rfl ((if0 _ _).trans (feq (hj3_3 : ¬ ((p1 &&& (1 : Int32)) = (0 : Int32)))).1) ?_
      show Steps p.tables e below (s₁.setTop (mkF m 6 #[.val (.int p1), .val (.long q2), .second, .val (.long q3), .second, .val (.long q4), .second, .val (.long q5), .second, .val (.int p6), .unset, .unset, .unset, .unset, .unset, .unset, .unset, .unset, .unset, .unset, .unset, .unset, .unset, .unset, .unset, .unset, .unset, .unset, .unset, .unset, .unset] [])) _
      refine XS.iconst X0.here hx rfl (hb hby at_6) ?_
      show Steps p.tables e below (s₁.setTop (mkF m 7 #[.val (.int p1), .val (.long q2), .second, .val (.long q3), .second, .val (.long q4), .second, .val (.long q5), .second, .val (.int p6), .unset, .unset, .unset, .unset, .unset, .unset, .unset, .unset, .unset, .unset, .unset, .unset, .unset, .unset, .unset, .unset, .unset, .unset, .unset, .unset, .unset] [(.int (1 : Int32))])) _
      refine XS.goto X0.here hx rfl (pc0 := 7) (pc' := 11) rfl (hb hby at_7) (by decide) (by decide) ?_
      exact kt
  have sg5 : ∀ target, Steps p.tables e below (s₁.setTop (mkF m 16 #[.val (.int p1), .val (.long q2), .second, .val (.long q3), .second, .val (.long q4), .second, .val (.long q5), .second, .val (.int p6), .val (.int ex), .unset, .unset, .unset, .unset, .unset, .unset, .unset, .unset, .unset, .unset, .unset, .unset, .unset, .unset, .unset, .unset, .unset, .unset, .unset, .unset] [(.int (p1 &&& (2 : Int32)))])) target → Steps p.tables e below (s₁.setTop (mkF m 11 #[.val (.int p1), .val (.long q2), .second, .val (.long q3), .second, .val (.long q4), .second, .val (.long q5), .second, .val (.int p6), .unset, .unset, .unset, .unset, .unset, .unset, .unset, .unset, .unset, .unset, .unset, .unset, .unset, .unset, .unset, .unset, .unset, .unset, .unset, .unset, .unset] [(.int ex)])) target := by
    intro target kt
    show Steps p.tables e below (s₁.setTop (mkF m 11 #[.val (.int p1), .val (.long q2), .second, .val (.long q3), .second, .val (.long q4), .second, .val (.long q5), .second, .val (.int p6), .unset, .unset, .unset, .unset, .unset, .unset, .unset, .unset, .unset, .unset, .unset, .unset, .unset, .unset, .unset, .unset, .unset, .unset, .unset, .unset, .unset] [(.int ex)])) _
    refine XS.istore X0.here hx rfl (hb hby at_11) rfl (l' := #[.val (.int p1), .val (.long q2), .second, .val (.long q3), .second, .val (.long q4), .second, .val (.long q5), .second, .val (.int p6), .val (.int ex), .unset, .unset, .unset, .unset, .unset, .unset, .unset, .unset, .unset, .unset, .unset, .unset, .unset, .unset, .unset, .unset, .unset, .unset, .unset, .unset]) rfl ?_
    show Steps p.tables e below (s₁.setTop (mkF m 13 #[.val (.int p1), .val (.long q2), .second, .val (.long q3), .second, .val (.long q4), .second, .val (.long q5), .second, .val (.int p6), .val (.int ex), .unset, .unset, .unset, .unset, .unset, .unset, .unset, .unset, .unset, .unset, .unset, .unset, .unset, .unset, .unset, .unset, .unset, .unset, .unset, .unset] [])) _
    refine XS.iloadN X0.here hx rfl (hb hby at_13) rfl ?_
    show Steps p.tables e below (s₁.setTop (mkF m 14 #[.val (.int p1), .val (.long q2), .second, .val (.long q3), .second, .val (.long q4), .second, .val (.long q5), .second, .val (.int p6), .val (.int ex), .unset, .unset, .unset, .unset, .unset, .unset, .unset, .unset, .unset, .unset, .unset, .unset, .unset, .unset, .unset, .unset, .unset, .unset, .unset, .unset] [(.int p1)])) _
    refine XS.iconst X0.here hx rfl (hb hby at_14) ?_
    show Steps p.tables e below (s₁.setTop (mkF m 15 #[.val (.int p1), .val (.long q2), .second, .val (.long q3), .second, .val (.long q4), .second, .val (.long q5), .second, .val (.int p6), .val (.int ex), .unset, .unset, .unset, .unset, .unset, .unset, .unset, .unset, .unset, .unset, .unset, .unset, .unset, .unset, .unset, .unset, .unset, .unset, .unset, .unset] [(.int (2 : Int32)), (.int p1)])) _
    refine XS.iand X0.here hx rfl (hb hby at_15) rfl ?_
    exact kt
  obtain ⟨fc, q_fc⟩ : ∃ z : Int32, z = (if (p1 &&& (2 : Int32)) = (0 : Int32) then (0 : Int32) else (1 : Int32)) := ⟨_, rfl⟩
  have sg8 : ∀ target, Steps p.tables e below (s₁.setTop (mkF m 24 #[.val (.int p1), .val (.long q2), .second, .val (.long q3), .second, .val (.long q4), .second, .val (.long q5), .second, .val (.int p6), .val (.int ex), .unset, .unset, .unset, .unset, .unset, .unset, .unset, .unset, .unset, .unset, .unset, .unset, .unset, .unset, .unset, .unset, .unset, .unset, .unset, .unset] [(.int fc)])) target → Steps p.tables e below (s₁.setTop (mkF m 16 #[.val (.int p1), .val (.long q2), .second, .val (.long q3), .second, .val (.long q4), .second, .val (.long q5), .second, .val (.int p6), .val (.int ex), .unset, .unset, .unset, .unset, .unset, .unset, .unset, .unset, .unset, .unset, .unset, .unset, .unset, .unset, .unset, .unset, .unset, .unset, .unset, .unset] [(.int (p1 &&& (2 : Int32)))])) target := by
    intro target kt
    by_cases hj7_16 : (p1 &&& (2 : Int32)) = (0 : Int32)
    · rw [if_pos hj7_16] at q_fc
      rw [q_fc] at kt
      show Steps p.tables e below (s₁.setTop (mkF m 16 #[.val (.int p1), .val (.long q2), .second, .val (.long q3), .second, .val (.long q4), .second, .val (.long q5), .second, .val (.int p6), .val (.int ex), .unset, .unset, .unset, .unset, .unset, .unset, .unset, .unset, .unset, .unset, .unset, .unset, .unset, .unset, .unset, .unset, .unset, .unset, .unset, .unset] [(.int (p1 &&& (2 : Int32)))])) _
      refine XS.ifYes X0.here hx rfl (pc0 := 16) (pc' := 23) rfl (hb hby at_16) rfl ((if0 _ _).trans (teq (hj7_16 : (p1 &&& (2 : Int32)) = (0 : Int32))).1) (by decide) (by decide) ?_
      show Steps p.tables e below (s₁.setTop (mkF m 23 #[.val (.int p1), .val (.long q2), .second, .val (.long q3), .second, .val (.long q4), .second, .val (.long q5), .second, .val (.int p6), .val (.int ex), .unset, .unset, .unset, .unset, .unset, .unset, .unset, .unset, .unset, .unset, .unset, .unset, .unset, .unset, .unset, .unset, .unset, .unset, .unset, .unset] [])) _
      refine XS.iconst X0.here hx rfl (hb hby at_23) ?_
      exact kt
    · rw [if_neg hj7_16] at q_fc
      rw [q_fc] at kt
      show Steps p.tables e below (s₁.setTop (mkF m 16 #[.val (.int p1), .val (.long q2), .second, .val (.long q3), .second, .val (.long q4), .second, .val (.long q5), .second, .val (.int p6), .val (.int ex), .unset, .unset, .unset, .unset, .unset, .unset, .unset, .unset, .unset, .unset, .unset, .unset, .unset, .unset, .unset, .unset, .unset, .unset, .unset, .unset] [(.int (p1 &&& (2 : Int32)))])) _
      refine XS.ifNo X0.here hx rfl (hb hby at_16) rfl ((if0 _ _).trans (feq (hj7_16 : ¬ ((p1 &&& (2 : Int32)) = (0 : Int32)))).1) ?_
      show Steps p.tables e below (s₁.setTop (mkF m 19 #[.val (.int p1), .val (.long q2), .second, .val (.long q3), .second, .val (.long q4), .second, .val (.long q5), .second, .val (.int p6), .val (.int ex), .unset, .unset, .unset, .unset, .unset, .unset, .unset, .unset, .unset, .unset, .unset, .unset, .unset, .unset, .unset, .unset, .unset, .unset, .unset, .unset] [])) _
      refine XS.iconst X0.here hx rfl (hb hby at_19) ?_
      show Steps p.tables e below (s₁.setTop (mkF m 20 #[.val (.int p1), .val (.long q2), .second, .val (.long q3), .second, .val (.long q4), .second, .val (.long q5), .second, .val (.int p6), .val (.int ex), .unset, .unset, .unset, .unset, .unset, .unset, .unset, .unset, .unset, .unset, .unset, .unset, .unset, .unset, .unset, .unset, .unset, .unset, .unset, .unset] [(.int (1 : Int32))])) _
      refine XS.goto X0.here hx rfl (pc0 := 20) (pc' := 24) rfl (hb hby at_20) (by decide) (by decide) ?_
      exact kt
  have sg9 : ∀ target, Steps p.tables e below (s₁.setTop (mkF m 29 #[.val (.int p1), .val (.long q2), .second, .val (.long q3), .second, .val (.long q4), .second, .val (.long q5), .second, .val (.int p6), .val (.int ex), .val (.int fc), .unset, .unset, .unset, .unset, .unset, .unset, .unset, .unset, .unset, .unset, .unset, .unset, .unset, .unset, .unset, .unset, .unset, .unset, .unset] [(.int (p1 &&& (4 : Int32)))])) target → Steps p.tables e below (s₁.setTop (mkF m 24 #[.val (.int p1), .val (.long q2), .second, .val (.long q3), .second, .val (.long q4), .second, .val (.long q5), .second, .val (.int p6), .val (.int ex), .unset, .unset, .unset, .unset, .unset, .unset, .unset, .unset, .unset, .unset, .unset, .unset, .unset, .unset, .unset, .unset, .unset, .unset, .unset, .unset] [(.int fc)])) target := by
    intro target kt
    show Steps p.tables e below (s₁.setTop (mkF m 24 #[.val (.int p1), .val (.long q2), .second, .val (.long q3), .second, .val (.long q4), .second, .val (.long q5), .second, .val (.int p6), .val (.int ex), .unset, .unset, .unset, .unset, .unset, .unset, .unset, .unset, .unset, .unset, .unset, .unset, .unset, .unset, .unset, .unset, .unset, .unset, .unset, .unset] [(.int fc)])) _
    refine XS.istore X0.here hx rfl (hb hby at_24) rfl (l' := #[.val (.int p1), .val (.long q2), .second, .val (.long q3), .second, .val (.long q4), .second, .val (.long q5), .second, .val (.int p6), .val (.int ex), .val (.int fc), .unset, .unset, .unset, .unset, .unset, .unset, .unset, .unset, .unset, .unset, .unset, .unset, .unset, .unset, .unset, .unset, .unset, .unset, .unset]) rfl ?_
    show Steps p.tables e below (s₁.setTop (mkF m 26 #[.val (.int p1), .val (.long q2), .second, .val (.long q3), .second, .val (.long q4), .second, .val (.long q5), .second, .val (.int p6), .val (.int ex), .val (.int fc), .unset, .unset, .unset, .unset, .unset, .unset, .unset, .unset, .unset, .unset, .unset, .unset, .unset, .unset, .unset, .unset, .unset, .unset, .unset] [])) _
    refine XS.iloadN X0.here hx rfl (hb hby at_26) rfl ?_
    show Steps p.tables e below (s₁.setTop (mkF m 27 #[.val (.int p1), .val (.long q2), .second, .val (.long q3), .second, .val (.long q4), .second, .val (.long q5), .second, .val (.int p6), .val (.int ex), .val (.int fc), .unset, .unset, .unset, .unset, .unset, .unset, .unset, .unset, .unset, .unset, .unset, .unset, .unset, .unset, .unset, .unset, .unset, .unset, .unset] [(.int p1)])) _
    refine XS.iconst X0.here hx rfl (hb hby at_27) ?_
    show Steps p.tables e below (s₁.setTop (mkF m 28 #[.val (.int p1), .val (.long q2), .second, .val (.long q3), .second, .val (.long q4), .second, .val (.long q5), .second, .val (.int p6), .val (.int ex), .val (.int fc), .unset, .unset, .unset, .unset, .unset, .unset, .unset, .unset, .unset, .unset, .unset, .unset, .unset, .unset, .unset, .unset, .unset, .unset, .unset] [(.int (4 : Int32)), (.int p1)])) _
    refine XS.iand X0.here hx rfl (hb hby at_28) rfl ?_
    exact kt
  obtain ⟨fw, q_fw⟩ : ∃ z : Int32, z = (if (p1 &&& (4 : Int32)) = (0 : Int32) then (0 : Int32) else (1 : Int32)) := ⟨_, rfl⟩
  have sg12 : ∀ target, Steps p.tables e below (s₁.setTop (mkF m 37 #[.val (.int p1), .val (.long q2), .second, .val (.long q3), .second, .val (.long q4), .second, .val (.long q5), .second, .val (.int p6), .val (.int ex), .val (.int fc), .unset, .unset, .unset, .unset, .unset, .unset, .unset, .unset, .unset, .unset, .unset, .unset, .unset, .unset, .unset, .unset, .unset, .unset, .unset] [(.int fw)])) target → Steps p.tables e below (s₁.setTop (mkF m 29 #[.val (.int p1), .val (.long q2), .second, .val (.long q3), .second, .val (.long q4), .second, .val (.long q5), .second, .val (.int p6), .val (.int ex), .val (.int fc), .unset, .unset, .unset, .unset, .unset, .unset, .unset, .unset, .unset, .unset, .unset, .unset, .unset, .unset, .unset, .unset, .unset, .unset, .unset] [(.int (p1 &&& (4 : Int32)))])) target := by
    intro target kt
    by_cases hj11_29 : (p1 &&& (4 : Int32)) = (0 : Int32)
    · rw [if_pos hj11_29] at q_fw
      rw [q_fw] at kt
      show Steps p.tables e below (s₁.setTop (mkF m 29 #[.val (.int p1), .val (.long q2), .second, .val (.long q3), .second, .val (.long q4), .second, .val (.long q5), .second, .val (.int p6), .val (.int ex), .val (.int fc), .unset, .unset, .unset, .unset, .unset, .unset, .unset, .unset, .unset, .unset, .unset, .unset, .unset, .unset, .unset, .unset, .unset, .unset, .unset] [(.int (p1 &&& (4 : Int32)))])) _
      refine XS.ifYes X0.here hx rfl (pc0 := 29) (pc' := 36) rfl (hb hby at_29) rfl ((if0 _ _).trans (teq (hj11_29 : (p1 &&& (4 : Int32)) = (0 : Int32))).1) (by decide) (by decide) ?_
      show Steps p.tables e below (s₁.setTop (mkF m 36 #[.val (.int p1), .val (.long q2), .second, .val (.long q3), .second, .val (.long q4), .second, .val (.long q5), .second, .val (.int p6), .val (.int ex), .val (.int fc), .unset, .unset, .unset, .unset, .unset, .unset, .unset, .unset, .unset, .unset, .unset, .unset, .unset, .unset, .unset, .unset, .unset, .unset, .unset] [])) _
      refine XS.iconst X0.here hx rfl (hb hby at_36) ?_
      exact kt
    · rw [if_neg hj11_29] at q_fw
      rw [q_fw] at kt
      show Steps p.tables e below (s₁.setTop (mkF m 29 #[.val (.int p1), .val (.long q2), .second, .val (.long q3), .second, .val (.long q4), .second, .val (.long q5), .second, .val (.int p6), .val (.int ex), .val (.int fc), .unset, .unset, .unset, .unset, .unset, .unset, .unset, .unset, .unset, .unset, .unset, .unset, .unset, .unset, .unset, .unset, .unset, .unset, .unset] [(.int (p1 &&& (4 : Int32)))])) _
      refine XS.ifNo X0.here hx rfl (hb hby at_29) rfl ((if0 _ _).trans (feq (hj11_29 : ¬ ((p1 &&& (4 : Int32)) = (0 : Int32)))).1) ?_
      show Steps p.tables e below (s₁.setTop (mkF m 32 #[.val (.int p1), .val (.long q2), .second, .val (.long q3), .second, .val (.long q4), .second, .val (.long q5), .second, .val (.int p6), .val (.int ex), .val (.int fc), .unset, .unset, .unset, .unset, .unset, .unset, .unset, .unset, .unset, .unset, .unset, .unset, .unset, .unset, .unset, .unset, .unset, .unset, .unset] [])) _
      refine XS.iconst X0.here hx rfl (hb hby at_32) ?_
      show Steps p.tables e below (s₁.setTop (mkF m 33 #[.val (.int p1), .val (.long q2), .second, .val (.long q3), .second, .val (.long q4), .second, .val (.long q5), .second, .val (.int p6), .val (.int ex), .val (.int fc), .unset, .unset, .unset, .unset, .unset, .unset, .unset, .unset, .unset, .unset, .unset, .unset, .unset, .unset, .unset, .unset, .unset, .unset, .unset] [(.int (1 : Int32))])) _
      refine XS.goto X0.here hx rfl (pc0 := 33) (pc' := 37) rfl (hb hby at_33) (by decide) (by decide) ?_
      exact kt
  have sg13 : ∀ target, Steps p.tables e below (s₁.setTop (mkF m 43 #[.val (.int p1), .val (.long q2), .second, .val (.long q3), .second, .val (.long q4), .second, .val (.long q5), .second, .val (.int p6), .val (.int ex), .val (.int fc), .val (.int fw), .unset, .unset, .unset, .unset, .unset, .unset, .unset, .unset, .unset, .unset, .unset, .unset, .unset, .unset, .unset, .unset, .unset, .unset] [(.int (p1 &&& (8 : Int32)))])) target → Steps p.tables e below (s₁.setTop (mkF m 37 #[.val (.int p1), .val (.long q2), .second, .val (.long q3), .second, .val (.long q4), .second, .val (.long q5), .second, .val (.int p6), .val (.int ex), .val (.int fc), .unset, .unset, .unset, .unset, .unset, .unset, .unset, .unset, .unset, .unset, .unset, .unset, .unset, .unset, .unset, .unset, .unset, .unset, .unset] [(.int fw)])) target := by
    intro target kt
    show Steps p.tables e below (s₁.setTop (mkF m 37 #[.val (.int p1), .val (.long q2), .second, .val (.long q3), .second, .val (.long q4), .second, .val (.long q5), .second, .val (.int p6), .val (.int ex), .val (.int fc), .unset, .unset, .unset, .unset, .unset, .unset, .unset, .unset, .unset, .unset, .unset, .unset, .unset, .unset, .unset, .unset, .unset, .unset, .unset] [(.int fw)])) _
    refine XS.istore X0.here hx rfl (hb hby at_37) rfl (l' := #[.val (.int p1), .val (.long q2), .second, .val (.long q3), .second, .val (.long q4), .second, .val (.long q5), .second, .val (.int p6), .val (.int ex), .val (.int fc), .val (.int fw), .unset, .unset, .unset, .unset, .unset, .unset, .unset, .unset, .unset, .unset, .unset, .unset, .unset, .unset, .unset, .unset, .unset, .unset]) rfl ?_
    show Steps p.tables e below (s₁.setTop (mkF m 39 #[.val (.int p1), .val (.long q2), .second, .val (.long q3), .second, .val (.long q4), .second, .val (.long q5), .second, .val (.int p6), .val (.int ex), .val (.int fc), .val (.int fw), .unset, .unset, .unset, .unset, .unset, .unset, .unset, .unset, .unset, .unset, .unset, .unset, .unset, .unset, .unset, .unset, .unset, .unset] [])) _
    refine XS.iloadN X0.here hx rfl (hb hby at_39) rfl ?_
    show Steps p.tables e below (s₁.setTop (mkF m 40 #[.val (.int p1), .val (.long q2), .second, .val (.long q3), .second, .val (.long q4), .second, .val (.long q5), .second, .val (.int p6), .val (.int ex), .val (.int fc), .val (.int fw), .unset, .unset, .unset, .unset, .unset, .unset, .unset, .unset, .unset, .unset, .unset, .unset, .unset, .unset, .unset, .unset, .unset, .unset] [(.int p1)])) _
    refine XS.bipush X0.here hx rfl (hb hby at_40) ?_
    show Steps p.tables e below (s₁.setTop (mkF m 42 #[.val (.int p1), .val (.long q2), .second, .val (.long q3), .second, .val (.long q4), .second, .val (.long q5), .second, .val (.int p6), .val (.int ex), .val (.int fc), .val (.int fw), .unset, .unset, .unset, .unset, .unset, .unset, .unset, .unset, .unset, .unset, .unset, .unset, .unset, .unset, .unset, .unset, .unset, .unset] [(.int (8 : Int32)), (.int p1)])) _
    refine XS.iand X0.here hx rfl (hb hby at_42) rfl ?_
    exact kt
  obtain ⟨o1, q_o1⟩ : ∃ z : Int64, z = (if (p1 &&& (8 : Int32)) = (0 : Int32) then (q2 &&& (4611686018427387903 : Int64)) else (0 : Int64)) := ⟨_, rfl⟩
  have sg16 : ∀ target, Steps p.tables e below (s₁.setTop (mkF m 55 #[.val (.int p1), .val (.long q2), .second, .val (.long q3), .second, .val (.long q4), .second, .val (.long q5), .second, .val (.int p6), .val (.int ex), .val (.int fc), .val (.int fw), .unset, .unset, .unset, .unset, .unset, .unset, .unset, .unset, .unset, .unset, .unset, .unset, .unset, .unset, .unset, .unset, .unset, .unset] [(.long o1)])) target → Steps p.tables e below (s₁.setTop (mkF m 43 #[.val (.int p1), .val (.long q2), .second, .val (.long q3), .second, .val (.long q4), .second, .val (.long q5), .second, .val (.int p6), .val (.int ex), .val (.int fc), .val (.int fw), .unset, .unset, .unset, .unset, .unset, .unset, .unset, .unset, .unset, .unset, .unset, .unset, .unset, .unset, .unset, .unset, .unset, .unset] [(.int (p1 &&& (8 : Int32)))])) target := by
    intro target kt
    by_cases hj15_43 : (p1 &&& (8 : Int32)) = (0 : Int32)
    · rw [if_pos hj15_43] at q_o1
      rw [q_o1] at kt
      show Steps p.tables e below (s₁.setTop (mkF m 43 #[.val (.int p1), .val (.long q2), .second, .val (.long q3), .second, .val (.long q4), .second, .val (.long q5), .second, .val (.int p6), .val (.int ex), .val (.int fc), .val (.int fw), .unset, .unset, .unset, .unset, .unset, .unset, .unset, .unset, .unset, .unset, .unset, .unset, .unset, .unset, .unset, .unset, .unset, .unset] [(.int (p1 &&& (8 : Int32)))])) _
      refine XS.ifYes X0.here hx rfl (pc0 := 43) (pc' := 50) rfl (hb hby at_43) rfl ((if0 _ _).trans (teq (hj15_43 : (p1 &&& (8 : Int32)) = (0 : Int32))).1) (by decide) (by decide) ?_
      show Steps p.tables e below (s₁.setTop (mkF m 50 #[.val (.int p1), .val (.long q2), .second, .val (.long q3), .second, .val (.long q4), .second, .val (.long q5), .second, .val (.int p6), .val (.int ex), .val (.int fc), .val (.int fw), .unset, .unset, .unset, .unset, .unset, .unset, .unset, .unset, .unset, .unset, .unset, .unset, .unset, .unset, .unset, .unset, .unset, .unset] [])) _
      refine XS.lloadN X0.here hx rfl (hb hby at_50) rfl ?_
      show Steps p.tables e below (s₁.setTop (mkF m 51 #[.val (.int p1), .val (.long q2), .second, .val (.long q3), .second, .val (.long q4), .second, .val (.long q5), .second, .val (.int p6), .val (.int ex), .val (.int fc), .val (.int fw), .unset, .unset, .unset, .unset, .unset, .unset, .unset, .unset, .unset, .unset, .unset, .unset, .unset, .unset, .unset, .unset, .unset, .unset] [(.long q2)])) _
      refine X0.ldc2Long hx hown (mvT hZ (hw _ (List.mem_of_getElem? (i := 0) rfl))) (g := (mkF m 51 #[.val (.int p1), .val (.long q2), .second, .val (.long q3), .second, .val (.long q4), .second, .val (.long q5), .second, .val (.int p6), .val (.int ex), .val (.int fc), .val (.int fw), .unset, .unset, .unset, .unset, .unset, .unset, .unset, .unset, .unset, .unset, .unset, .unset, .unset, .unset, .unset, .unset, .unset, .unset] [(.long q2)])) rfl (hb hby at_51) _ ?_
      show Steps p.tables e below (s₁.setTop (mkF m 54 #[.val (.int p1), .val (.long q2), .second, .val (.long q3), .second, .val (.long q4), .second, .val (.long q5), .second, .val (.int p6), .val (.int ex), .val (.int fc), .val (.int fw), .unset, .unset, .unset, .unset, .unset, .unset, .unset, .unset, .unset, .unset, .unset, .unset, .unset, .unset, .unset, .unset, .unset, .unset] [(.long (4611686018427387903 : Int64)), (.long q2)])) _
      refine XS.land X0.here hx rfl (hb hby at_54) rfl ?_
      exact kt
    · rw [if_neg hj15_43] at q_o1
      rw [q_o1] at kt
      show Steps p.tables e below (s₁.setTop (mkF m 43 #[.val (.int p1), .val (.long q2), .second, .val (.long q3), .second, .val (.long q4), .second, .val (.long q5), .second, .val (.int p6), .val (.int ex), .val (.int fc), .val (.int fw), .unset, .unset, .unset, .unset, .unset, .unset, .unset, .unset, .unset, .unset, .unset, .unset, .unset, .unset, .unset, .unset, .unset, .unset] [(.int (p1 &&& (8 : Int32)))])) _
      refine XS.ifNo X0.here hx rfl (hb hby at_43) rfl ((if0 _ _).trans (feq (hj15_43 : ¬ ((p1 &&& (8 : Int32)) = (0 : Int32)))).1) ?_
      show Steps p.tables e below (s₁.setTop (mkF m 46 #[.val (.int p1), .val (.long q2), .second, .val (.long q3), .second, .val (.long q4), .second, .val (.long q5), .second, .val (.int p6), .val (.int ex), .val (.int fc), .val (.int fw), .unset, .unset, .unset, .unset, .unset, .unset, .unset, .unset, .unset, .unset, .unset, .unset, .unset, .unset, .unset, .unset, .unset, .unset] [])) _
      refine XS.lconst X0.here hx rfl (hb hby at_46) ?_
      show Steps p.tables e below (s₁.setTop (mkF m 47 #[.val (.int p1), .val (.long q2), .second, .val (.long q3), .second, .val (.long q4), .second, .val (.long q5), .second, .val (.int p6), .val (.int ex), .val (.int fc), .val (.int fw), .unset, .unset, .unset, .unset, .unset, .unset, .unset, .unset, .unset, .unset, .unset, .unset, .unset, .unset, .unset, .unset, .unset, .unset] [(.long (0 : Int64))])) _
      refine XS.goto X0.here hx rfl (pc0 := 47) (pc' := 55) rfl (hb hby at_47) (by decide) (by decide) ?_
      exact kt
  have sg17 : ∀ target, Steps p.tables e below (s₁.setTop (mkF m 61 #[.val (.int p1), .val (.long q2), .second, .val (.long q3), .second, .val (.long q4), .second, .val (.long q5), .second, .val (.int p6), .val (.int ex), .val (.int fc), .val (.int fw), .val (.long o1), .second, .unset, .unset, .unset, .unset, .unset, .unset, .unset, .unset, .unset, .unset, .unset, .unset, .unset, .unset, .unset, .unset] [(.int (p1 &&& (16 : Int32)))])) target → Steps p.tables e below (s₁.setTop (mkF m 55 #[.val (.int p1), .val (.long q2), .second, .val (.long q3), .second, .val (.long q4), .second, .val (.long q5), .second, .val (.int p6), .val (.int ex), .val (.int fc), .val (.int fw), .unset, .unset, .unset, .unset, .unset, .unset, .unset, .unset, .unset, .unset, .unset, .unset, .unset, .unset, .unset, .unset, .unset, .unset] [(.long o1)])) target := by
    intro target kt
    show Steps p.tables e below (s₁.setTop (mkF m 55 #[.val (.int p1), .val (.long q2), .second, .val (.long q3), .second, .val (.long q4), .second, .val (.long q5), .second, .val (.int p6), .val (.int ex), .val (.int fc), .val (.int fw), .unset, .unset, .unset, .unset, .unset, .unset, .unset, .unset, .unset, .unset, .unset, .unset, .unset, .unset, .unset, .unset, .unset, .unset] [(.long o1)])) _
    refine XS.lstore X0.here hx rfl (hb hby at_55) rfl (l' := #[.val (.int p1), .val (.long q2), .second, .val (.long q3), .second, .val (.long q4), .second, .val (.long q5), .second, .val (.int p6), .val (.int ex), .val (.int fc), .val (.int fw), .val (.long o1), .second, .unset, .unset, .unset, .unset, .unset, .unset, .unset, .unset, .unset, .unset, .unset, .unset, .unset, .unset, .unset, .unset]) rfl ?_
    show Steps p.tables e below (s₁.setTop (mkF m 57 #[.val (.int p1), .val (.long q2), .second, .val (.long q3), .second, .val (.long q4), .second, .val (.long q5), .second, .val (.int p6), .val (.int ex), .val (.int fc), .val (.int fw), .val (.long o1), .second, .unset, .unset, .unset, .unset, .unset, .unset, .unset, .unset, .unset, .unset, .unset, .unset, .unset, .unset, .unset, .unset] [])) _
    refine XS.iloadN X0.here hx rfl (hb hby at_57) rfl ?_
    show Steps p.tables e below (s₁.setTop (mkF m 58 #[.val (.int p1), .val (.long q2), .second, .val (.long q3), .second, .val (.long q4), .second, .val (.long q5), .second, .val (.int p6), .val (.int ex), .val (.int fc), .val (.int fw), .val (.long o1), .second, .unset, .unset, .unset, .unset, .unset, .unset, .unset, .unset, .unset, .unset, .unset, .unset, .unset, .unset, .unset, .unset] [(.int p1)])) _
    refine XS.bipush X0.here hx rfl (hb hby at_58) ?_
    show Steps p.tables e below (s₁.setTop (mkF m 60 #[.val (.int p1), .val (.long q2), .second, .val (.long q3), .second, .val (.long q4), .second, .val (.long q5), .second, .val (.int p6), .val (.int ex), .val (.int fc), .val (.int fw), .val (.long o1), .second, .unset, .unset, .unset, .unset, .unset, .unset, .unset, .unset, .unset, .unset, .unset, .unset, .unset, .unset, .unset, .unset] [(.int (16 : Int32)), (.int p1)])) _
    refine XS.iand X0.here hx rfl (hb hby at_60) rfl ?_
    exact kt
  obtain ⟨l1, q_l1⟩ : ∃ z : Int64, z = (if (p1 &&& (16 : Int32)) = (0 : Int32) then (q3 &&& (4611686018427387903 : Int64)) else (0 : Int64)) := ⟨_, rfl⟩
  have sg20 : ∀ target, Steps p.tables e below (s₁.setTop (mkF m 73 #[.val (.int p1), .val (.long q2), .second, .val (.long q3), .second, .val (.long q4), .second, .val (.long q5), .second, .val (.int p6), .val (.int ex), .val (.int fc), .val (.int fw), .val (.long o1), .second, .unset, .unset, .unset, .unset, .unset, .unset, .unset, .unset, .unset, .unset, .unset, .unset, .unset, .unset, .unset, .unset] [(.long l1)])) target → Steps p.tables e below (s₁.setTop (mkF m 61 #[.val (.int p1), .val (.long q2), .second, .val (.long q3), .second, .val (.long q4), .second, .val (.long q5), .second, .val (.int p6), .val (.int ex), .val (.int fc), .val (.int fw), .val (.long o1), .second, .unset, .unset, .unset, .unset, .unset, .unset, .unset, .unset, .unset, .unset, .unset, .unset, .unset, .unset, .unset, .unset] [(.int (p1 &&& (16 : Int32)))])) target := by
    intro target kt
    by_cases hj19_61 : (p1 &&& (16 : Int32)) = (0 : Int32)
    · rw [if_pos hj19_61] at q_l1
      rw [q_l1] at kt
      show Steps p.tables e below (s₁.setTop (mkF m 61 #[.val (.int p1), .val (.long q2), .second, .val (.long q3), .second, .val (.long q4), .second, .val (.long q5), .second, .val (.int p6), .val (.int ex), .val (.int fc), .val (.int fw), .val (.long o1), .second, .unset, .unset, .unset, .unset, .unset, .unset, .unset, .unset, .unset, .unset, .unset, .unset, .unset, .unset, .unset, .unset] [(.int (p1 &&& (16 : Int32)))])) _
      refine XS.ifYes X0.here hx rfl (pc0 := 61) (pc' := 68) rfl (hb hby at_61) rfl ((if0 _ _).trans (teq (hj19_61 : (p1 &&& (16 : Int32)) = (0 : Int32))).1) (by decide) (by decide) ?_
      show Steps p.tables e below (s₁.setTop (mkF m 68 #[.val (.int p1), .val (.long q2), .second, .val (.long q3), .second, .val (.long q4), .second, .val (.long q5), .second, .val (.int p6), .val (.int ex), .val (.int fc), .val (.int fw), .val (.long o1), .second, .unset, .unset, .unset, .unset, .unset, .unset, .unset, .unset, .unset, .unset, .unset, .unset, .unset, .unset, .unset, .unset] [])) _
      refine XS.lloadN X0.here hx rfl (hb hby at_68) rfl ?_
      show Steps p.tables e below (s₁.setTop (mkF m 69 #[.val (.int p1), .val (.long q2), .second, .val (.long q3), .second, .val (.long q4), .second, .val (.long q5), .second, .val (.int p6), .val (.int ex), .val (.int fc), .val (.int fw), .val (.long o1), .second, .unset, .unset, .unset, .unset, .unset, .unset, .unset, .unset, .unset, .unset, .unset, .unset, .unset, .unset, .unset, .unset] [(.long q3)])) _
      refine X0.ldc2Long hx hown (mvT hZ (hw _ (List.mem_of_getElem? (i := 0) rfl))) (g := (mkF m 69 #[.val (.int p1), .val (.long q2), .second, .val (.long q3), .second, .val (.long q4), .second, .val (.long q5), .second, .val (.int p6), .val (.int ex), .val (.int fc), .val (.int fw), .val (.long o1), .second, .unset, .unset, .unset, .unset, .unset, .unset, .unset, .unset, .unset, .unset, .unset, .unset, .unset, .unset, .unset, .unset] [(.long q3)])) rfl (hb hby at_69) _ ?_
      show Steps p.tables e below (s₁.setTop (mkF m 72 #[.val (.int p1), .val (.long q2), .second, .val (.long q3), .second, .val (.long q4), .second, .val (.long q5), .second, .val (.int p6), .val (.int ex), .val (.int fc), .val (.int fw), .val (.long o1), .second, .unset, .unset, .unset, .unset, .unset, .unset, .unset, .unset, .unset, .unset, .unset, .unset, .unset, .unset, .unset, .unset] [(.long (4611686018427387903 : Int64)), (.long q3)])) _
      refine XS.land X0.here hx rfl (hb hby at_72) rfl ?_
      exact kt
    · rw [if_neg hj19_61] at q_l1
      rw [q_l1] at kt
      show Steps p.tables e below (s₁.setTop (mkF m 61 #[.val (.int p1), .val (.long q2), .second, .val (.long q3), .second, .val (.long q4), .second, .val (.long q5), .second, .val (.int p6), .val (.int ex), .val (.int fc), .val (.int fw), .val (.long o1), .second, .unset, .unset, .unset, .unset, .unset, .unset, .unset, .unset, .unset, .unset, .unset, .unset, .unset, .unset, .unset, .unset] [(.int (p1 &&& (16 : Int32)))])) _
      refine XS.ifNo X0.here hx rfl (hb hby at_61) rfl ((if0 _ _).trans (feq (hj19_61 : ¬ ((p1 &&& (16 : Int32)) = (0 : Int32)))).1) ?_
      show Steps p.tables e below (s₁.setTop (mkF m 64 #[.val (.int p1), .val (.long q2), .second, .val (.long q3), .second, .val (.long q4), .second, .val (.long q5), .second, .val (.int p6), .val (.int ex), .val (.int fc), .val (.int fw), .val (.long o1), .second, .unset, .unset, .unset, .unset, .unset, .unset, .unset, .unset, .unset, .unset, .unset, .unset, .unset, .unset, .unset, .unset] [])) _
      refine XS.lconst X0.here hx rfl (hb hby at_64) ?_
      show Steps p.tables e below (s₁.setTop (mkF m 65 #[.val (.int p1), .val (.long q2), .second, .val (.long q3), .second, .val (.long q4), .second, .val (.long q5), .second, .val (.int p6), .val (.int ex), .val (.int fc), .val (.int fw), .val (.long o1), .second, .unset, .unset, .unset, .unset, .unset, .unset, .unset, .unset, .unset, .unset, .unset, .unset, .unset, .unset, .unset, .unset] [(.long (0 : Int64))])) _
      refine XS.goto X0.here hx rfl (pc0 := 65) (pc' := 73) rfl (hb hby at_65) (by decide) (by decide) ?_
      exact kt
  have sg21 : ∀ target, Steps p.tables e below (s₁.setTop (mkF m 79 #[.val (.int p1), .val (.long q2), .second, .val (.long q3), .second, .val (.long q4), .second, .val (.long q5), .second, .val (.int p6), .val (.int ex), .val (.int fc), .val (.int fw), .val (.long o1), .second, .val (.long l1), .second, .unset, .unset, .unset, .unset, .unset, .unset, .unset, .unset, .unset, .unset, .unset, .unset, .unset, .unset] [(.int (p1 &&& (32 : Int32)))])) target → Steps p.tables e below (s₁.setTop (mkF m 73 #[.val (.int p1), .val (.long q2), .second, .val (.long q3), .second, .val (.long q4), .second, .val (.long q5), .second, .val (.int p6), .val (.int ex), .val (.int fc), .val (.int fw), .val (.long o1), .second, .unset, .unset, .unset, .unset, .unset, .unset, .unset, .unset, .unset, .unset, .unset, .unset, .unset, .unset, .unset, .unset] [(.long l1)])) target := by
    intro target kt
    show Steps p.tables e below (s₁.setTop (mkF m 73 #[.val (.int p1), .val (.long q2), .second, .val (.long q3), .second, .val (.long q4), .second, .val (.long q5), .second, .val (.int p6), .val (.int ex), .val (.int fc), .val (.int fw), .val (.long o1), .second, .unset, .unset, .unset, .unset, .unset, .unset, .unset, .unset, .unset, .unset, .unset, .unset, .unset, .unset, .unset, .unset] [(.long l1)])) _
    refine XS.lstore X0.here hx rfl (hb hby at_73) rfl (l' := #[.val (.int p1), .val (.long q2), .second, .val (.long q3), .second, .val (.long q4), .second, .val (.long q5), .second, .val (.int p6), .val (.int ex), .val (.int fc), .val (.int fw), .val (.long o1), .second, .val (.long l1), .second, .unset, .unset, .unset, .unset, .unset, .unset, .unset, .unset, .unset, .unset, .unset, .unset, .unset, .unset]) rfl ?_
    show Steps p.tables e below (s₁.setTop (mkF m 75 #[.val (.int p1), .val (.long q2), .second, .val (.long q3), .second, .val (.long q4), .second, .val (.long q5), .second, .val (.int p6), .val (.int ex), .val (.int fc), .val (.int fw), .val (.long o1), .second, .val (.long l1), .second, .unset, .unset, .unset, .unset, .unset, .unset, .unset, .unset, .unset, .unset, .unset, .unset, .unset, .unset] [])) _
    refine XS.iloadN X0.here hx rfl (hb hby at_75) rfl ?_
    show Steps p.tables e below (s₁.setTop (mkF m 76 #[.val (.int p1), .val (.long q2), .second, .val (.long q3), .second, .val (.long q4), .second, .val (.long q5), .second, .val (.int p6), .val (.int ex), .val (.int fc), .val (.int fw), .val (.long o1), .second, .val (.long l1), .second, .unset, .unset, .unset, .unset, .unset, .unset, .unset, .unset, .unset, .unset, .unset, .unset, .unset, .unset] [(.int p1)])) _
    refine XS.bipush X0.here hx rfl (hb hby at_76) ?_
    show Steps p.tables e below (s₁.setTop (mkF m 78 #[.val (.int p1), .val (.long q2), .second, .val (.long q3), .second, .val (.long q4), .second, .val (.long q5), .second, .val (.int p6), .val (.int ex), .val (.int fc), .val (.int fw), .val (.long o1), .second, .val (.long l1), .second, .unset, .unset, .unset, .unset, .unset, .unset, .unset, .unset, .unset, .unset, .unset, .unset, .unset, .unset] [(.int (32 : Int32)), (.int p1)])) _
    refine XS.iand X0.here hx rfl (hb hby at_78) rfl ?_
    exact kt
  obtain ⟨o2, q_o2⟩ : ∃ z : Int64, z = (if (p1 &&& (32 : Int32)) = (0 : Int32) then (q4 &&& (4611686018427387903 : Int64)) else (0 : Int64)) := ⟨_, rfl⟩
  have sg24 : ∀ target, Steps p.tables e below (s₁.setTop (mkF m 92 #[.val (.int p1), .val (.long q2), .second, .val (.long q3), .second, .val (.long q4), .second, .val (.long q5), .second, .val (.int p6), .val (.int ex), .val (.int fc), .val (.int fw), .val (.long o1), .second, .val (.long l1), .second, .unset, .unset, .unset, .unset, .unset, .unset, .unset, .unset, .unset, .unset, .unset, .unset, .unset, .unset] [(.long o2)])) target → Steps p.tables e below (s₁.setTop (mkF m 79 #[.val (.int p1), .val (.long q2), .second, .val (.long q3), .second, .val (.long q4), .second, .val (.long q5), .second, .val (.int p6), .val (.int ex), .val (.int fc), .val (.int fw), .val (.long o1), .second, .val (.long l1), .second, .unset, .unset, .unset, .unset, .unset, .unset, .unset, .unset, .unset, .unset, .unset, .unset, .unset, .unset] [(.int (p1 &&& (32 : Int32)))])) target := by
    intro target kt
    by_cases hj23_79 : (p1 &&& (32 : Int32)) = (0 : Int32)
    · rw [if_pos hj23_79] at q_o2
      rw [q_o2] at kt
      show Steps p.tables e below (s₁.setTop (mkF m 79 #[.val (.int p1), .val (.long q2), .second, .val (.long q3), .second, .val (.long q4), .second, .val (.long q5), .second, .val (.int p6), .val (.int ex), .val (.int fc), .val (.int fw), .val (.long o1), .second, .val (.long l1), .second, .unset, .unset, .unset, .unset, .unset, .unset, .unset, .unset, .unset, .unset, .unset, .unset, .unset, .unset] [(.int (p1 &&& (32 : Int32)))])) _
      refine XS.ifYes X0.here hx rfl (pc0 := 79) (pc' := 86) rfl (hb hby at_79) rfl ((if0 _ _).trans (teq (hj23_79 : (p1 &&& (32 : Int32)) = (0 : Int32))).1) (by decide) (by decide) ?_
      show Steps p.tables e below (s₁.setTop (mkF m 86 #[.val (.int p1), .val (.long q2), .second, .val (.long q3), .second, .val (.long q4), .second, .val (.long q5), .second, .val (.int p6), .val (.int ex), .val (.int fc), .val (.int fw), .val (.long o1), .second, .val (.long l1), .second, .unset, .unset, .unset, .unset, .unset, .unset, .unset, .unset, .unset, .unset, .unset, .unset, .unset, .unset] [])) _
      refine XS.lload X0.here hx rfl (hb hby at_86) rfl ?_
      show Steps p.tables e below (s₁.setTop (mkF m 88 #[.val (.int p1), .val (.long q2), .second, .val (.long q3), .second, .val (.long q4), .second, .val (.long q5), .second, .val (.int p6), .val (.int ex), .val (.int fc), .val (.int fw), .val (.long o1), .second, .val (.long l1), .second, .unset, .unset, .unset, .unset, .unset, .unset, .unset, .unset, .unset, .unset, .unset, .unset, .unset, .unset] [(.long q4)])) _
      refine X0.ldc2Long hx hown (mvT hZ (hw _ (List.mem_of_getElem? (i := 0) rfl))) (g := (mkF m 88 #[.val (.int p1), .val (.long q2), .second, .val (.long q3), .second, .val (.long q4), .second, .val (.long q5), .second, .val (.int p6), .val (.int ex), .val (.int fc), .val (.int fw), .val (.long o1), .second, .val (.long l1), .second, .unset, .unset, .unset, .unset, .unset, .unset, .unset, .unset, .unset, .unset, .unset, .unset, .unset, .unset] [(.long q4)])) rfl (hb hby at_88) _ ?_
      show Steps p.tables e below (s₁.setTop (mkF m 91 #[.val (.int p1), .val (.long q2), .second, .val (.long q3), .second, .val (.long q4), .second, .val (.long q5), .second, .val (.int p6), .val (.int ex), .val (.int fc), .val (.int fw), .val (.long o1), .second, .val (.long l1), .second, .unset, .unset, .unset, .unset, .unset, .unset, .unset, .unset, .unset, .unset, .unset, .unset, .unset, .unset] [(.long (4611686018427387903 : Int64)), (.long q4)])) _
      refine XS.land X0.here hx rfl (hb hby at_91) rfl ?_
      exact kt
    · rw [if_neg hj23_79] at q_o2
      rw [q_o2] at kt
      show Steps p.tables e below (s₁.setTop (mkF m 79 #[.val (.int p1), .val (.long q2), .second, .val (.long q3), .second, .val (.long q4), .second, .val (.long q5), .second, .val (.int p6), .val (.int ex), .val (.int fc), .val (.int fw), .val (.long o1), .second, .val (.long l1), .second, .unset, .unset, .unset, .unset, .unset, .unset, .unset, .unset, .unset, .unset, .unset, .unset, .unset, .unset] [(.int (p1 &&& (32 : Int32)))])) _
      refine XS.ifNo X0.here hx rfl (hb hby at_79) rfl ((if0 _ _).trans (feq (hj23_79 : ¬ ((p1 &&& (32 : Int32)) = (0 : Int32)))).1) ?_
      show Steps p.tables e below (s₁.setTop (mkF m 82 #[.val (.int p1), .val (.long q2), .second, .val (.long q3), .second, .val (.long q4), .second, .val (.long q5), .second, .val (.int p6), .val (.int ex), .val (.int fc), .val (.int fw), .val (.long o1), .second, .val (.long l1), .second, .unset, .unset, .unset, .unset, .unset, .unset, .unset, .unset, .unset, .unset, .unset, .unset, .unset, .unset] [])) _
      refine XS.lconst X0.here hx rfl (hb hby at_82) ?_
      show Steps p.tables e below (s₁.setTop (mkF m 83 #[.val (.int p1), .val (.long q2), .second, .val (.long q3), .second, .val (.long q4), .second, .val (.long q5), .second, .val (.int p6), .val (.int ex), .val (.int fc), .val (.int fw), .val (.long o1), .second, .val (.long l1), .second, .unset, .unset, .unset, .unset, .unset, .unset, .unset, .unset, .unset, .unset, .unset, .unset, .unset, .unset] [(.long (0 : Int64))])) _
      refine XS.goto X0.here hx rfl (pc0 := 83) (pc' := 92) rfl (hb hby at_83) (by decide) (by decide) ?_
      exact kt
  have sg25 : ∀ target, Steps p.tables e below (s₁.setTop (mkF m 98 #[.val (.int p1), .val (.long q2), .second, .val (.long q3), .second, .val (.long q4), .second, .val (.long q5), .second, .val (.int p6), .val (.int ex), .val (.int fc), .val (.int fw), .val (.long o1), .second, .val (.long l1), .second, .val (.long o2), .second, .unset, .unset, .unset, .unset, .unset, .unset, .unset, .unset, .unset, .unset, .unset, .unset] [(.int (p1 &&& (64 : Int32)))])) target → Steps p.tables e below (s₁.setTop (mkF m 92 #[.val (.int p1), .val (.long q2), .second, .val (.long q3), .second, .val (.long q4), .second, .val (.long q5), .second, .val (.int p6), .val (.int ex), .val (.int fc), .val (.int fw), .val (.long o1), .second, .val (.long l1), .second, .unset, .unset, .unset, .unset, .unset, .unset, .unset, .unset, .unset, .unset, .unset, .unset, .unset, .unset] [(.long o2)])) target := by
    intro target kt
    show Steps p.tables e below (s₁.setTop (mkF m 92 #[.val (.int p1), .val (.long q2), .second, .val (.long q3), .second, .val (.long q4), .second, .val (.long q5), .second, .val (.int p6), .val (.int ex), .val (.int fc), .val (.int fw), .val (.long o1), .second, .val (.long l1), .second, .unset, .unset, .unset, .unset, .unset, .unset, .unset, .unset, .unset, .unset, .unset, .unset, .unset, .unset] [(.long o2)])) _
    refine XS.lstore X0.here hx rfl (hb hby at_92) rfl (l' := #[.val (.int p1), .val (.long q2), .second, .val (.long q3), .second, .val (.long q4), .second, .val (.long q5), .second, .val (.int p6), .val (.int ex), .val (.int fc), .val (.int fw), .val (.long o1), .second, .val (.long l1), .second, .val (.long o2), .second, .unset, .unset, .unset, .unset, .unset, .unset, .unset, .unset, .unset, .unset, .unset, .unset]) rfl ?_
    show Steps p.tables e below (s₁.setTop (mkF m 94 #[.val (.int p1), .val (.long q2), .second, .val (.long q3), .second, .val (.long q4), .second, .val (.long q5), .second, .val (.int p6), .val (.int ex), .val (.int fc), .val (.int fw), .val (.long o1), .second, .val (.long l1), .second, .val (.long o2), .second, .unset, .unset, .unset, .unset, .unset, .unset, .unset, .unset, .unset, .unset, .unset, .unset] [])) _
    refine XS.iloadN X0.here hx rfl (hb hby at_94) rfl ?_
    show Steps p.tables e below (s₁.setTop (mkF m 95 #[.val (.int p1), .val (.long q2), .second, .val (.long q3), .second, .val (.long q4), .second, .val (.long q5), .second, .val (.int p6), .val (.int ex), .val (.int fc), .val (.int fw), .val (.long o1), .second, .val (.long l1), .second, .val (.long o2), .second, .unset, .unset, .unset, .unset, .unset, .unset, .unset, .unset, .unset, .unset, .unset, .unset] [(.int p1)])) _
    refine XS.bipush X0.here hx rfl (hb hby at_95) ?_
    show Steps p.tables e below (s₁.setTop (mkF m 97 #[.val (.int p1), .val (.long q2), .second, .val (.long q3), .second, .val (.long q4), .second, .val (.long q5), .second, .val (.int p6), .val (.int ex), .val (.int fc), .val (.int fw), .val (.long o1), .second, .val (.long l1), .second, .val (.long o2), .second, .unset, .unset, .unset, .unset, .unset, .unset, .unset, .unset, .unset, .unset, .unset, .unset] [(.int (64 : Int32)), (.int p1)])) _
    refine XS.iand X0.here hx rfl (hb hby at_97) rfl ?_
    exact kt
  obtain ⟨l2, q_l2⟩ : ∃ z : Int64, z = (if (p1 &&& (64 : Int32)) = (0 : Int32) then (q5 &&& (4611686018427387903 : Int64)) else (0 : Int64)) := ⟨_, rfl⟩
  have sg28 : ∀ target, Steps p.tables e below (s₁.setTop (mkF m 111 #[.val (.int p1), .val (.long q2), .second, .val (.long q3), .second, .val (.long q4), .second, .val (.long q5), .second, .val (.int p6), .val (.int ex), .val (.int fc), .val (.int fw), .val (.long o1), .second, .val (.long l1), .second, .val (.long o2), .second, .unset, .unset, .unset, .unset, .unset, .unset, .unset, .unset, .unset, .unset, .unset, .unset] [(.long l2)])) target → Steps p.tables e below (s₁.setTop (mkF m 98 #[.val (.int p1), .val (.long q2), .second, .val (.long q3), .second, .val (.long q4), .second, .val (.long q5), .second, .val (.int p6), .val (.int ex), .val (.int fc), .val (.int fw), .val (.long o1), .second, .val (.long l1), .second, .val (.long o2), .second, .unset, .unset, .unset, .unset, .unset, .unset, .unset, .unset, .unset, .unset, .unset, .unset] [(.int (p1 &&& (64 : Int32)))])) target := by
    intro target kt
    by_cases hj27_98 : (p1 &&& (64 : Int32)) = (0 : Int32)
    · rw [if_pos hj27_98] at q_l2
      rw [q_l2] at kt
      show Steps p.tables e below (s₁.setTop (mkF m 98 #[.val (.int p1), .val (.long q2), .second, .val (.long q3), .second, .val (.long q4), .second, .val (.long q5), .second, .val (.int p6), .val (.int ex), .val (.int fc), .val (.int fw), .val (.long o1), .second, .val (.long l1), .second, .val (.long o2), .second, .unset, .unset, .unset, .unset, .unset, .unset, .unset, .unset, .unset, .unset, .unset, .unset] [(.int (p1 &&& (64 : Int32)))])) _
      refine XS.ifYes X0.here hx rfl (pc0 := 98) (pc' := 105) rfl (hb hby at_98) rfl ((if0 _ _).trans (teq (hj27_98 : (p1 &&& (64 : Int32)) = (0 : Int32))).1) (by decide) (by decide) ?_
      show Steps p.tables e below (s₁.setTop (mkF m 105 #[.val (.int p1), .val (.long q2), .second, .val (.long q3), .second, .val (.long q4), .second, .val (.long q5), .second, .val (.int p6), .val (.int ex), .val (.int fc), .val (.int fw), .val (.long o1), .second, .val (.long l1), .second, .val (.long o2), .second, .unset, .unset, .unset, .unset, .unset, .unset, .unset, .unset, .unset, .unset, .unset, .unset] [])) _
      refine XS.lload X0.here hx rfl (hb hby at_105) rfl ?_
      show Steps p.tables e below (s₁.setTop (mkF m 107 #[.val (.int p1), .val (.long q2), .second, .val (.long q3), .second, .val (.long q4), .second, .val (.long q5), .second, .val (.int p6), .val (.int ex), .val (.int fc), .val (.int fw), .val (.long o1), .second, .val (.long l1), .second, .val (.long o2), .second, .unset, .unset, .unset, .unset, .unset, .unset, .unset, .unset, .unset, .unset, .unset, .unset] [(.long q5)])) _
      refine X0.ldc2Long hx hown (mvT hZ (hw _ (List.mem_of_getElem? (i := 0) rfl))) (g := (mkF m 107 #[.val (.int p1), .val (.long q2), .second, .val (.long q3), .second, .val (.long q4), .second, .val (.long q5), .second, .val (.int p6), .val (.int ex), .val (.int fc), .val (.int fw), .val (.long o1), .second, .val (.long l1), .second, .val (.long o2), .second, .unset, .unset, .unset, .unset, .unset, .unset, .unset, .unset, .unset, .unset, .unset, .unset] [(.long q5)])) rfl (hb hby at_107) _ ?_
      show Steps p.tables e below (s₁.setTop (mkF m 110 #[.val (.int p1), .val (.long q2), .second, .val (.long q3), .second, .val (.long q4), .second, .val (.long q5), .second, .val (.int p6), .val (.int ex), .val (.int fc), .val (.int fw), .val (.long o1), .second, .val (.long l1), .second, .val (.long o2), .second, .unset, .unset, .unset, .unset, .unset, .unset, .unset, .unset, .unset, .unset, .unset, .unset] [(.long (4611686018427387903 : Int64)), (.long q5)])) _
      refine XS.land X0.here hx rfl (hb hby at_110) rfl ?_
      exact kt
    · rw [if_neg hj27_98] at q_l2
      rw [q_l2] at kt
      show Steps p.tables e below (s₁.setTop (mkF m 98 #[.val (.int p1), .val (.long q2), .second, .val (.long q3), .second, .val (.long q4), .second, .val (.long q5), .second, .val (.int p6), .val (.int ex), .val (.int fc), .val (.int fw), .val (.long o1), .second, .val (.long l1), .second, .val (.long o2), .second, .unset, .unset, .unset, .unset, .unset, .unset, .unset, .unset, .unset, .unset, .unset, .unset] [(.int (p1 &&& (64 : Int32)))])) _
      refine XS.ifNo X0.here hx rfl (hb hby at_98) rfl ((if0 _ _).trans (feq (hj27_98 : ¬ ((p1 &&& (64 : Int32)) = (0 : Int32)))).1) ?_
      show Steps p.tables e below (s₁.setTop (mkF m 101 #[.val (.int p1), .val (.long q2), .second, .val (.long q3), .second, .val (.long q4), .second, .val (.long q5), .second, .val (.int p6), .val (.int ex), .val (.int fc), .val (.int fw), .val (.long o1), .second, .val (.long l1), .second, .val (.long o2), .second, .unset, .unset, .unset, .unset, .unset, .unset, .unset, .unset, .unset, .unset, .unset, .unset] [])) _
      refine XS.lconst X0.here hx rfl (hb hby at_101) ?_
      show Steps p.tables e below (s₁.setTop (mkF m 102 #[.val (.int p1), .val (.long q2), .second, .val (.long q3), .second, .val (.long q4), .second, .val (.long q5), .second, .val (.int p6), .val (.int ex), .val (.int fc), .val (.int fw), .val (.long o1), .second, .val (.long l1), .second, .val (.long o2), .second, .unset, .unset, .unset, .unset, .unset, .unset, .unset, .unset, .unset, .unset, .unset, .unset] [(.long (0 : Int64))])) _
      refine XS.goto X0.here hx rfl (pc0 := 102) (pc' := 111) rfl (hb hby at_102) (by decide) (by decide) ?_
      exact kt
  have b_o1 := own_b62 q_o1
  have b_l1 := own_b62 q_l1
  have b_o2 := own_b62 q_o2
  have b_l2 := own_b62 q_l2
  have hex := own_bool q_ex
  have sg29 : ∀ target, Steps p.tables e below (s₁.setTop (mkF m 114 #[.val (.int p1), .val (.long q2), .second, .val (.long q3), .second, .val (.long q4), .second, .val (.long q5), .second, .val (.int p6), .val (.int ex), .val (.int fc), .val (.int fw), .val (.long o1), .second, .val (.long l1), .second, .val (.long o2), .second, .val (.long l2), .second, .unset, .unset, .unset, .unset, .unset, .unset, .unset, .unset, .unset, .unset] [(.int (1 : Int32))])) target → Steps p.tables e below (s₁.setTop (mkF m 111 #[.val (.int p1), .val (.long q2), .second, .val (.long q3), .second, .val (.long q4), .second, .val (.long q5), .second, .val (.int p6), .val (.int ex), .val (.int fc), .val (.int fw), .val (.long o1), .second, .val (.long l1), .second, .val (.long o2), .second, .unset, .unset, .unset, .unset, .unset, .unset, .unset, .unset, .unset, .unset, .unset, .unset] [(.long l2)])) target := by
    intro target kt
    show Steps p.tables e below (s₁.setTop (mkF m 111 #[.val (.int p1), .val (.long q2), .second, .val (.long q3), .second, .val (.long q4), .second, .val (.long q5), .second, .val (.int p6), .val (.int ex), .val (.int fc), .val (.int fw), .val (.long o1), .second, .val (.long l1), .second, .val (.long o2), .second, .unset, .unset, .unset, .unset, .unset, .unset, .unset, .unset, .unset, .unset, .unset, .unset] [(.long l2)])) _
    refine XS.lstore X0.here hx rfl (hb hby at_111) rfl (l' := #[.val (.int p1), .val (.long q2), .second, .val (.long q3), .second, .val (.long q4), .second, .val (.long q5), .second, .val (.int p6), .val (.int ex), .val (.int fc), .val (.int fw), .val (.long o1), .second, .val (.long l1), .second, .val (.long o2), .second, .val (.long l2), .second, .unset, .unset, .unset, .unset, .unset, .unset, .unset, .unset, .unset, .unset]) rfl ?_
    show Steps p.tables e below (s₁.setTop (mkF m 113 #[.val (.int p1), .val (.long q2), .second, .val (.long q3), .second, .val (.long q4), .second, .val (.long q5), .second, .val (.int p6), .val (.int ex), .val (.int fc), .val (.int fw), .val (.long o1), .second, .val (.long l1), .second, .val (.long o2), .second, .val (.long l2), .second, .unset, .unset, .unset, .unset, .unset, .unset, .unset, .unset, .unset, .unset] [])) _
    refine XS.iconst X0.here hx rfl (hb hby at_113) ?_
    exact kt
  obtain ⟨T30, h30, k30, X30, e30, E30, A30, st30⟩ := newP X0 hx hZ (hw _ (List.mem_of_getElem? (i := 1) rfl)) e0 (g := (mkF m 114 #[.val (.int p1), .val (.long q2), .second, .val (.long q3), .second, .val (.long q4), .second, .val (.long q5), .second, .val (.int p6), .val (.int ex), .val (.int fc), .val (.int fw), .val (.long o1), .second, .val (.long l1), .second, .val (.long o2), .second, .val (.long l2), .second, .unset, .unset, .unset, .unset, .unset, .unset, .unset, .unset, .unset, .unset] [(.int (1 : Int32))])) rfl (hb hby at_114) rfl (by decide) (cap := 1) (by decide) (by decide) (by decide) (by decide)
  obtain ⟨b30, g30⟩ : ∃ z, z = h0.size := ⟨_, rfl⟩
  rw [← g30] at A30 st30
  have g_b30 : n0 ≤ b30 := Nat.le_trans Z0 (Nat.le_of_eq g30.symm)
  have Zs30 : n0 ≤ h30.size := Nat.le_trans Z0 E30.1
  have f31 : Old Z n0 h30 := O.ext E30
  have f32 : Arv Z h30 b30 k30 .char (1 : Int32) [(.int (0 : Int32))] (.int (0 : Int32)) := (Arv.new A30 (by decide)).pad (pad_rep [] (.int (0 : Int32)) 1)
  have sg33 : ∀ target, Steps p.tables e below (T30.setTop (mkF m 130 #[.val (.int p1), .val (.long q2), .second, .val (.long q3), .second, .val (.long q4), .second, .val (.long q5), .second, .val (.int p6), .val (.int ex), .val (.int fc), .val (.int fw), .val (.long o1), .second, .val (.long l1), .second, .val (.long o2), .second, .val (.long l2), .second, .val (.ref b30), .unset, .unset, .unset, .unset, .unset, .unset, .unset, .unset, .unset] [(.int (own_ch p1)), (.int (0 : Int32)), (.ref b30)])) target → Steps p.tables e below (T30.setTop (mkF m 116 #[.val (.int p1), .val (.long q2), .second, .val (.long q3), .second, .val (.long q4), .second, .val (.long q5), .second, .val (.int p6), .val (.int ex), .val (.int fc), .val (.int fw), .val (.long o1), .second, .val (.long l1), .second, .val (.long o2), .second, .val (.long l2), .second, .unset, .unset, .unset, .unset, .unset, .unset, .unset, .unset, .unset, .unset] [(.ref b30)])) target := by
    intro target kt
    show Steps p.tables e below (T30.setTop (mkF m 116 #[.val (.int p1), .val (.long q2), .second, .val (.long q3), .second, .val (.long q4), .second, .val (.long q5), .second, .val (.int p6), .val (.int ex), .val (.int fc), .val (.int fw), .val (.long o1), .second, .val (.long l1), .second, .val (.long o2), .second, .val (.long l2), .second, .unset, .unset, .unset, .unset, .unset, .unset, .unset, .unset, .unset, .unset] [(.ref b30)])) _
    refine XS.astore X30.here hx rfl (hb hby at_116) rfl rfl (l' := #[.val (.int p1), .val (.long q2), .second, .val (.long q3), .second, .val (.long q4), .second, .val (.long q5), .second, .val (.int p6), .val (.int ex), .val (.int fc), .val (.int fw), .val (.long o1), .second, .val (.long l1), .second, .val (.long o2), .second, .val (.long l2), .second, .val (.ref b30), .unset, .unset, .unset, .unset, .unset, .unset, .unset, .unset, .unset]) rfl ?_
    show Steps p.tables e below (T30.setTop (mkF m 118 #[.val (.int p1), .val (.long q2), .second, .val (.long q3), .second, .val (.long q4), .second, .val (.long q5), .second, .val (.int p6), .val (.int ex), .val (.int fc), .val (.int fw), .val (.long o1), .second, .val (.long l1), .second, .val (.long o2), .second, .val (.long l2), .second, .val (.ref b30), .unset, .unset, .unset, .unset, .unset, .unset, .unset, .unset, .unset] [])) _
    refine XS.aload X30.here hx rfl (hb hby at_118) rfl rfl ?_
    show Steps p.tables e below (T30.setTop (mkF m 120 #[.val (.int p1), .val (.long q2), .second, .val (.long q3), .second, .val (.long q4), .second, .val (.long q5), .second, .val (.int p6), .val (.int ex), .val (.int fc), .val (.int fw), .val (.long o1), .second, .val (.long l1), .second, .val (.long o2), .second, .val (.long l2), .second, .val (.ref b30), .unset, .unset, .unset, .unset, .unset, .unset, .unset, .unset, .unset] [(.ref b30)])) _
    refine XS.iconst X30.here hx rfl (hb hby at_120) ?_
    show Steps p.tables e below (T30.setTop (mkF m 121 #[.val (.int p1), .val (.long q2), .second, .val (.long q3), .second, .val (.long q4), .second, .val (.long q5), .second, .val (.int p6), .val (.int ex), .val (.int fc), .val (.int fw), .val (.long o1), .second, .val (.long l1), .second, .val (.long o2), .second, .val (.long l2), .second, .val (.ref b30), .unset, .unset, .unset, .unset, .unset, .unset, .unset, .unset, .unset] [(.int (0 : Int32)), (.ref b30)])) _
    refine XS.iloadN X30.here hx rfl (hb hby at_121) rfl ?_
    show Steps p.tables e below (T30.setTop (mkF m 122 #[.val (.int p1), .val (.long q2), .second, .val (.long q3), .second, .val (.long q4), .second, .val (.long q5), .second, .val (.int p6), .val (.int ex), .val (.int fc), .val (.int fw), .val (.long o1), .second, .val (.long l1), .second, .val (.long o2), .second, .val (.long l2), .second, .val (.ref b30), .unset, .unset, .unset, .unset, .unset, .unset, .unset, .unset, .unset] [(.int p1), (.int (0 : Int32)), (.ref b30)])) _
    refine XS.bipush X30.here hx rfl (hb hby at_122) ?_
    show Steps p.tables e below (T30.setTop (mkF m 124 #[.val (.int p1), .val (.long q2), .second, .val (.long q3), .second, .val (.long q4), .second, .val (.long q5), .second, .val (.int p6), .val (.int ex), .val (.int fc), .val (.int fw), .val (.long o1), .second, .val (.long l1), .second, .val (.long o2), .second, .val (.long l2), .second, .val (.ref b30), .unset, .unset, .unset, .unset, .unset, .unset, .unset, .unset, .unset] [(.int (8 : Int32)), (.int p1), (.int (0 : Int32)), (.ref b30)])) _
    refine XS.iushr X30.here hx rfl (hb hby at_124) rfl ?_
    show Steps p.tables e below (T30.setTop (mkF m 125 #[.val (.int p1), .val (.long q2), .second, .val (.long q3), .second, .val (.long q4), .second, .val (.long q5), .second, .val (.int p6), .val (.int ex), .val (.int fc), .val (.int fw), .val (.long o1), .second, .val (.long l1), .second, .val (.long o2), .second, .val (.long l2), .second, .val (.ref b30), .unset, .unset, .unset, .unset, .unset, .unset, .unset, .unset, .unset] [(.int ((p1).toUInt32 >>> ((8 : Int32) &&& 31).toUInt32).toInt32), (.int (0 : Int32)), (.ref b30)])) _
    refine XS.sipush X30.here hx rfl (hb hby at_125) ?_
    show Steps p.tables e below (T30.setTop (mkF m 128 #[.val (.int p1), .val (.long q2), .second, .val (.long q3), .second, .val (.long q4), .second, .val (.long q5), .second, .val (.int p6), .val (.int ex), .val (.int fc), .val (.int fw), .val (.long o1), .second, .val (.long l1), .second, .val (.long o2), .second, .val (.long l2), .second, .val (.ref b30), .unset, .unset, .unset, .unset, .unset, .unset, .unset, .unset, .unset] [(.int (255 : Int32)), (.int ((p1).toUInt32 >>> ((8 : Int32) &&& 31).toUInt32).toInt32), (.int (0 : Int32)), (.ref b30)])) _
    refine XS.iand X30.here hx rfl (hb hby at_128) rfl ?_
    show Steps p.tables e below (T30.setTop (mkF m 129 #[.val (.int p1), .val (.long q2), .second, .val (.long q3), .second, .val (.long q4), .second, .val (.long q5), .second, .val (.int p6), .val (.int ex), .val (.int fc), .val (.int fw), .val (.long o1), .second, .val (.long l1), .second, .val (.long o2), .second, .val (.long l2), .second, .val (.ref b30), .unset, .unset, .unset, .unset, .unset, .unset, .unset, .unset, .unset] [(.int (((p1).toUInt32 >>> ((8 : Int32) &&& 31).toUInt32).toInt32 &&& (255 : Int32))), (.int (0 : Int32)), (.ref b30)])) _
    refine XS.i2c X30.here hx rfl (hb hby at_129) rfl ?_
    exact kt
  obtain ⟨cl34, Ar34, qc34, S34, M34, Hh34, G34⟩ := id f32
  have hin34 : ¬ ((0 : Int32) < 0 ∨ cl34.slots.size ≤ ((0 : Int32)).toNatClampNeg) := inb_of S34 ⟨by decide, by decide⟩
  obtain ⟨T35, h35, X35, e35, W35, st35⟩ := stC X30 hx hZ e30 Ar34 (j := (0 : Int32)) hin34 (g := (mkF m 130 #[.val (.int p1), .val (.long q2), .second, .val (.long q3), .second, .val (.long q4), .second, .val (.long q5), .second, .val (.int p6), .val (.int ex), .val (.int fc), .val (.int fw), .val (.long o1), .second, .val (.long l1), .second, .val (.long o2), .second, .val (.long l2), .second, .val (.ref b30), .unset, .unset, .unset, .unset, .unset, .unset, .unset, .unset, .unset] [(.int (own_ch p1)), (.int (0 : Int32)), (.ref b30)])) rfl rfl (hb hby at_130)
  have N35 := Fr.snoc X35 N0 g_b30
  have Zs35 : n0 ≤ h35.size := by rw [W35.size]; exact Zs30
  have f36 : Old Z n0 h35 := f31.wr W35 g_b30
  have f37 : Arv Z h35 b30 k30 .char (1 : Int32) [(.int (nar .char (own_ch p1)))] (.int (0 : Int32)) := Arv.set Ar34 qc34 S34 M34 Hh34 G34 (fits_nar_char _) W35 0 rfl (Nat.le_of_ble_eq_true rfl)
  have sg38 : ∀ target, Steps p.tables e below (T35.setTop (mkF m 139 #[.val (.int p1), .val (.long q2), .second, .val (.long q3), .second, .val (.long q4), .second, .val (.long q5), .second, .val (.int p6), .val (.int ex), .val (.int fc), .val (.int fw), .val (.long o1), .second, .val (.long l1), .second, .val (.long o2), .second, .val (.long l2), .second, .val (.ref b30), .val (.double (FP.i2d (p6 &&& (65535 : Int32)))), .second, .unset, .unset, .unset, .unset, .unset, .unset, .unset] [])) target → Steps p.tables e below (T35.setTop (mkF m 131 #[.val (.int p1), .val (.long q2), .second, .val (.long q3), .second, .val (.long q4), .second, .val (.long q5), .second, .val (.int p6), .val (.int ex), .val (.int fc), .val (.int fw), .val (.long o1), .second, .val (.long l1), .second, .val (.long o2), .second, .val (.long l2), .second, .val (.ref b30), .unset, .unset, .unset, .unset, .unset, .unset, .unset, .unset, .unset] [])) target := by
    intro target kt
    show Steps p.tables e below (T35.setTop (mkF m 131 #[.val (.int p1), .val (.long q2), .second, .val (.long q3), .second, .val (.long q4), .second, .val (.long q5), .second, .val (.int p6), .val (.int ex), .val (.int fc), .val (.int fw), .val (.long o1), .second, .val (.long l1), .second, .val (.long o2), .second, .val (.long l2), .second, .val (.ref b30), .unset, .unset, .unset, .unset, .unset, .unset, .unset, .unset, .unset] [])) _
    refine XS.iload X35.here hx rfl (hb hby at_131) rfl ?_
    show Steps p.tables e below (T35.setTop (mkF m 133 #[.val (.int p1), .val (.long q2), .second, .val (.long q3), .second, .val (.long q4), .second, .val (.long q5), .second, .val (.int p6), .val (.int ex), .val (.int fc), .val (.int fw), .val (.long o1), .second, .val (.long l1), .second, .val (.long o2), .second, .val (.long l2), .second, .val (.ref b30), .unset, .unset, .unset, .unset, .unset, .unset, .unset, .unset, .unset] [(.int p6)])) _
    refine X35.ldcInt hx hown (mvT hZ (hw _ (List.mem_of_getElem? (i := 2) rfl))) (g := (mkF m 133 #[.val (.int p1), .val (.long q2), .second, .val (.long q3), .second, .val (.long q4), .second, .val (.long q5), .second, .val (.int p6), .val (.int ex), .val (.int fc), .val (.int fw), .val (.long o1), .second, .val (.long l1), .second, .val (.long o2), .second, .val (.long l2), .second, .val (.ref b30), .unset, .unset, .unset, .unset, .unset, .unset, .unset, .unset, .unset] [(.int p6)])) rfl (hb hby at_133) _ ?_
    show Steps p.tables e below (T35.setTop (mkF m 135 #[.val (.int p1), .val (.long q2), .second, .val (.long q3), .second, .val (.long q4), .second, .val (.long q5), .second, .val (.int p6), .val (.int ex), .val (.int fc), .val (.int fw), .val (.long o1), .second, .val (.long l1), .second, .val (.long o2), .second, .val (.long l2), .second, .val (.ref b30), .unset, .unset, .unset, .unset, .unset, .unset, .unset, .unset, .unset] [(.int (65535 : Int32)), (.int p6)])) _
    refine XS.iand X35.here hx rfl (hb hby at_135) rfl ?_
    show Steps p.tables e below (T35.setTop (mkF m 136 #[.val (.int p1), .val (.long q2), .second, .val (.long q3), .second, .val (.long q4), .second, .val (.long q5), .second, .val (.int p6), .val (.int ex), .val (.int fc), .val (.int fw), .val (.long o1), .second, .val (.long l1), .second, .val (.long o2), .second, .val (.long l2), .second, .val (.ref b30), .unset, .unset, .unset, .unset, .unset, .unset, .unset, .unset, .unset] [(.int (p6 &&& (65535 : Int32)))])) _
    refine XS.i2dS X35.here hx rfl (v := (FP.i2d (p6 &&& (65535 : Int32)))) (hb hby at_136) rfl rfl ?_
    show Steps p.tables e below (T35.setTop (mkF m 137 #[.val (.int p1), .val (.long q2), .second, .val (.long q3), .second, .val (.long q4), .second, .val (.long q5), .second, .val (.int p6), .val (.int ex), .val (.int fc), .val (.int fw), .val (.long o1), .second, .val (.long l1), .second, .val (.long o2), .second, .val (.long l2), .second, .val (.ref b30), .unset, .unset, .unset, .unset, .unset, .unset, .unset, .unset, .unset] [(.double (FP.i2d (p6 &&& (65535 : Int32))))])) _
    refine XS.dstore X35.here hx rfl (hb hby at_137) rfl (l' := #[.val (.int p1), .val (.long q2), .second, .val (.long q3), .second, .val (.long q4), .second, .val (.long q5), .second, .val (.int p6), .val (.int ex), .val (.int fc), .val (.int fw), .val (.long o1), .second, .val (.long l1), .second, .val (.long o2), .second, .val (.long l2), .second, .val (.ref b30), .val (.double (FP.i2d (p6 &&& (65535 : Int32)))), .second, .unset, .unset, .unset, .unset, .unset, .unset, .unset]) rfl ?_
    exact kt
  obtain ⟨T39, h39, X39, e39, E39, A39, D39, -, st39⟩ := newO X35 hx hZ hown (hw _ (List.mem_of_getElem? (i := 3) rfl)) (hw _ (List.mem_of_getElem? (i := 4) rfl)) (hw _ (List.mem_of_getElem? (i := 5) rfl)) e35 (g := (mkF m 139 #[.val (.int p1), .val (.long q2), .second, .val (.long q3), .second, .val (.long q4), .second, .val (.long q5), .second, .val (.int p6), .val (.int ex), .val (.int fc), .val (.int fw), .val (.long o1), .second, .val (.long l1), .second, .val (.long o2), .second, .val (.long l2), .second, .val (.ref b30), .val (.double (FP.i2d (p6 &&& (65535 : Int32)))), .second, .unset, .unset, .unset, .unset, .unset, .unset, .unset] [])) rfl (hb hby at_139) (by decide) (by decide)
  obtain ⟨b39, g39⟩ : ∃ z, z = h35.size := ⟨_, rfl⟩
  rw [← g39] at A39 D39 st39
  have g_b39 : n0 ≤ b39 := Nat.le_trans Zs35 (Nat.le_of_eq g39.symm)
  have ne_b30_b39 : b30 ≠ b39 := Nat.ne_of_lt (Nat.lt_of_lt_of_le f37.lt (Nat.le_of_eq g39.symm))
  have Zs39 : n0 ≤ h39.size := Nat.le_trans Zs35 E39.1
  have f40 : Old Z n0 h39 := f36.ext E39
  have f41 : Arv Z h39 b30 k30 .char (1 : Int32) [(.int (nar .char (own_ch p1)))] (.int (0 : Int32)) := f37.ext E39
  have f42 : Exa Z h39 b39 "com/example/brelok/brelok/perf/Timing$Measure" := A39
  have f43 : Fld Z h39 b39 "com/example/brelok/brelok/perf/Timing$Measure" "figure" "D" (.double (0 : UInt64)) := D39 (Or.inr (hw _ (List.mem_of_getElem? (i := 18) rfl))) (ty := .double) (by decide)
  have f44 : Fld Z h39 b39 "com/example/brelok/brelok/perf/Timing$Measure" "overlaps" "J" (.long (0 : Int64)) := D39 (Or.inr (hw _ (List.mem_of_getElem? (i := 20) rfl))) (ty := .long) (by decide)
  have f45 : Fld Z h39 b39 "com/example/brelok/brelok/perf/Timing$Measure" "lostUpdates" "J" (.long (0 : Int64)) := D39 (Or.inr (hw _ (List.mem_of_getElem? (i := 22) rfl))) (ty := .long) (by decide)
  have sg46 : ∀ target, Steps p.tables e below (T39.setTop (mkF m 149 #[.val (.int p1), .val (.long q2), .second, .val (.long q3), .second, .val (.long q4), .second, .val (.long q5), .second, .val (.int p6), .val (.int ex), .val (.int fc), .val (.int fw), .val (.long o1), .second, .val (.long l1), .second, .val (.long o2), .second, .val (.long l2), .second, .val (.ref b30), .val (.double (FP.i2d (p6 &&& (65535 : Int32)))), .second, .unset, .unset, .unset, .unset, .unset, .unset, .unset] [(.long l1), (.long o1), (.double (FP.i2d (p6 &&& (65535 : Int32)))), (.ref b39), (.ref b39)])) target → Steps p.tables e below (T39.setTop (mkF m 142 #[.val (.int p1), .val (.long q2), .second, .val (.long q3), .second, .val (.long q4), .second, .val (.long q5), .second, .val (.int p6), .val (.int ex), .val (.int fc), .val (.int fw), .val (.long o1), .second, .val (.long l1), .second, .val (.long o2), .second, .val (.long l2), .second, .val (.ref b30), .val (.double (FP.i2d (p6 &&& (65535 : Int32)))), .second, .unset, .unset, .unset, .unset, .unset, .unset, .unset] [(.ref b39)])) target := by
    intro target kt
    show Steps p.tables e below (T39.setTop (mkF m 142 #[.val (.int p1), .val (.long q2), .second, .val (.long q3), .second, .val (.long q4), .second, .val (.long q5), .second, .val (.int p6), .val (.int ex), .val (.int fc), .val (.int fw), .val (.long o1), .second, .val (.long l1), .second, .val (.long o2), .second, .val (.long l2), .second, .val (.ref b30), .val (.double (FP.i2d (p6 &&& (65535 : Int32)))), .second, .unset, .unset, .unset, .unset, .unset, .unset, .unset] [(.ref b39)])) _
    refine XS.dup X39.here hx rfl (hb hby at_142) rfl rfl ?_
    show Steps p.tables e below (T39.setTop (mkF m 143 #[.val (.int p1), .val (.long q2), .second, .val (.long q3), .second, .val (.long q4), .second, .val (.long q5), .second, .val (.int p6), .val (.int ex), .val (.int fc), .val (.int fw), .val (.long o1), .second, .val (.long l1), .second, .val (.long o2), .second, .val (.long l2), .second, .val (.ref b30), .val (.double (FP.i2d (p6 &&& (65535 : Int32)))), .second, .unset, .unset, .unset, .unset, .unset, .unset, .unset] [(.ref b39), (.ref b39)])) _
    refine XS.dload X39.here hx rfl (hb hby at_143) rfl ?_
    show Steps p.tables e below (T39.setTop (mkF m 145 #[.val (.int p1), .val (.long q2), .second, .val (.long q3), .second, .val (.long q4), .second, .val (.long q5), .second, .val (.int p6), .val (.int ex), .val (.int fc), .val (.int fw), .val (.long o1), .second, .val (.long l1), .second, .val (.long o2), .second, .val (.long l2), .second, .val (.ref b30), .val (.double (FP.i2d (p6 &&& (65535 : Int32)))), .second, .unset, .unset, .unset, .unset, .unset, .unset, .unset] [(.double (FP.i2d (p6 &&& (65535 : Int32)))), (.ref b39), (.ref b39)])) _
    refine XS.lload X39.here hx rfl (hb hby at_145) rfl ?_
    show Steps p.tables e below (T39.setTop (mkF m 147 #[.val (.int p1), .val (.long q2), .second, .val (.long q3), .second, .val (.long q4), .second, .val (.long q5), .second, .val (.int p6), .val (.int ex), .val (.int fc), .val (.int fw), .val (.long o1), .second, .val (.long l1), .second, .val (.long o2), .second, .val (.long l2), .second, .val (.ref b30), .val (.double (FP.i2d (p6 &&& (65535 : Int32)))), .second, .unset, .unset, .unset, .unset, .unset, .unset, .unset] [(.long o1), (.double (FP.i2d (p6 &&& (65535 : Int32)))), (.ref b39), (.ref b39)])) _
    refine XS.lload X39.here hx rfl (hb hby at_147) rfl ?_
    exact kt
  obtain ⟨_, _, ⟨T47, L47, k47, n47⟩, -, X47, ⟨Lc47, hQ47, l47, y47, z47⟩, st47⟩ := X39.specialBack hx (y := (⟨"com/example/brelok/brelok/perf/Timing$Measure", "<init>", "(DJJ)V"⟩ : MethodName)) rfl hown (mvT hZ (hw _ (List.mem_of_getElem? (i := 6) rfl))) (mvT hZ (hw _ (List.mem_of_getElem? (i := 7) rfl))) (mvT hZ (hw _ (List.mem_of_getElem? (i := 8) rfl))) (by decide) (backOf (W := 1) (rm1 l Z a0 hw [] b39 (FP.i2d (p6 &&& (65535 : Int32))) o1 l1 h39 n0 Zs39 f42 f43 f44 f45 g_b39) hZ (hw _ (List.mem_of_getElem? (i := 8) rfl)) (hw _ (List.mem_of_getElem? (i := 5) rfl)) (by decide) (by decide)) (g := (mkF m 149 #[.val (.int p1), .val (.long q2), .second, .val (.long q3), .second, .val (.long q4), .second, .val (.long q5), .second, .val (.int p6), .val (.int ex), .val (.int fc), .val (.int fw), .val (.long o1), .second, .val (.long l1), .second, .val (.long o2), .second, .val (.long l2), .second, .val (.ref b30), .val (.double (FP.i2d (p6 &&& (65535 : Int32)))), .second, .unset, .unset, .unset, .unset, .unset, .unset, .unset] [(.long l1), (.long o1), (.double (FP.i2d (p6 &&& (65535 : Int32)))), (.ref b39), (.ref b39)])) rfl (by rw [hml]; rfl) (Steps.refl _) (a := b39) (argsL := [(.double (FP.i2d (p6 &&& (65535 : Int32)))), (.long o1), (.long l1)]) (rest := [(.ref b39)]) (lenOf pd_8 rfl) rfl (by show 2 * 0 + _ ≤ _; exact Nat.le_of_eq rfl) (hb hby at_149) (fun _ _ => ⟨rfl, e39, (by decide : 2 + 0 ≤ _), (by decide : 4 + 0 ≤ _)⟩)
  dsimp only [Pt.U, Pt.locs, Pt.cells, Pt.slots] at X47 l47 y47 z47 st47 hQ47
  subst l47 y47 z47
  obtain ⟨rfl, N47q, c47_0, c47_1, c47_2, c47_3, c47_4⟩ := hQ47
  have N47 := Fr.app N35 N47q
  have Zs47 : n0 ≤ T47.heap.size := Nat.le_trans Zs39 c47_0.1
  have f48 : Old Z n0 T47.heap := f40.keep c47_0 (allS g_b39 all0)
  have f49 : Arv Z T47.heap b30 k30 .char (1 : Int32) [(.int (nar .char (own_ch p1)))] (.int (0 : Int32)) := f41.keep c47_0 (ninS ne_b30_b39 nin0)
  have f50 : Exa Z T47.heap b39 "com/example/brelok/brelok/perf/Timing$Measure" := c47_1
  have f51 : Fld Z T47.heap b39 "com/example/brelok/brelok/perf/Timing$Measure" "figure" "D" (.double (FP.i2d (p6 &&& (65535 : Int32)))) := c47_2
  have f52 : Fld Z T47.heap b39 "com/example/brelok/brelok/perf/Timing$Measure" "overlaps" "J" (.long o1) := c47_3
  have f53 : Fld Z T47.heap b39 "com/example/brelok/brelok/perf/Timing$Measure" "lostUpdates" "J" (.long l1) := c47_4
  have sg54 : ∀ target, Steps p.tables e below (T47.setTop (mkF m 154 #[.val (.int p1), .val (.long q2), .second, .val (.long q3), .second, .val (.long q4), .second, .val (.long q5), .second, .val (.int p6), .val (.int ex), .val (.int fc), .val (.int fw), .val (.long o1), .second, .val (.long l1), .second, .val (.long o2), .second, .val (.long l2), .second, .val (.ref b30), .val (.double (FP.i2d (p6 &&& (65535 : Int32)))), .second, .val (.ref b39), .unset, .unset, .unset, .unset, .unset, .unset] [])) target → Steps p.tables e below (T47.setTop (mkF m 152 #[.val (.int p1), .val (.long q2), .second, .val (.long q3), .second, .val (.long q4), .second, .val (.long q5), .second, .val (.int p6), .val (.int ex), .val (.int fc), .val (.int fw), .val (.long o1), .second, .val (.long l1), .second, .val (.long o2), .second, .val (.long l2), .second, .val (.ref b30), .val (.double (FP.i2d (p6 &&& (65535 : Int32)))), .second, .unset, .unset, .unset, .unset, .unset, .unset, .unset] [(.ref b39)])) target := by
    intro target kt
    show Steps p.tables e below (T47.setTop (mkF m 152 #[.val (.int p1), .val (.long q2), .second, .val (.long q3), .second, .val (.long q4), .second, .val (.long q5), .second, .val (.int p6), .val (.int ex), .val (.int fc), .val (.int fw), .val (.long o1), .second, .val (.long l1), .second, .val (.long o2), .second, .val (.long l2), .second, .val (.ref b30), .val (.double (FP.i2d (p6 &&& (65535 : Int32)))), .second, .unset, .unset, .unset, .unset, .unset, .unset, .unset] [(.ref b39)])) _
    refine XS.astore X47.here hx rfl (hb hby at_152) rfl rfl (l' := #[.val (.int p1), .val (.long q2), .second, .val (.long q3), .second, .val (.long q4), .second, .val (.long q5), .second, .val (.int p6), .val (.int ex), .val (.int fc), .val (.int fw), .val (.long o1), .second, .val (.long l1), .second, .val (.long o2), .second, .val (.long l2), .second, .val (.ref b30), .val (.double (FP.i2d (p6 &&& (65535 : Int32)))), .second, .val (.ref b39), .unset, .unset, .unset, .unset, .unset, .unset]) rfl ?_
    exact kt
  obtain ⟨T55, h55, X55, e55, E55, A55, D55, -, st55⟩ := newO X47 hx hZ hown (hw _ (List.mem_of_getElem? (i := 3) rfl)) (hw _ (List.mem_of_getElem? (i := 4) rfl)) (hw _ (List.mem_of_getElem? (i := 5) rfl)) rfl (g := (mkF m 154 #[.val (.int p1), .val (.long q2), .second, .val (.long q3), .second, .val (.long q4), .second, .val (.long q5), .second, .val (.int p6), .val (.int ex), .val (.int fc), .val (.int fw), .val (.long o1), .second, .val (.long l1), .second, .val (.long o2), .second, .val (.long l2), .second, .val (.ref b30), .val (.double (FP.i2d (p6 &&& (65535 : Int32)))), .second, .val (.ref b39), .unset, .unset, .unset, .unset, .unset, .unset] [])) rfl (hb hby at_154) (by decide) (by decide)
  obtain ⟨b55, g55⟩ : ∃ z, z = T47.heap.size := ⟨_, rfl⟩
  rw [← g55] at A55 D55 st55
  have g_b55 : n0 ≤ b55 := Nat.le_trans Zs47 (Nat.le_of_eq g55.symm)
  have ne_b30_b55 : b30 ≠ b55 := Nat.ne_of_lt (Nat.lt_of_lt_of_le f49.lt (Nat.le_of_eq g55.symm))
  have ne_b39_b55 : b39 ≠ b55 := Nat.ne_of_lt (Nat.lt_of_lt_of_le f50.lt (Nat.le_of_eq g55.symm))
  have Zs55 : n0 ≤ h55.size := Nat.le_trans Zs47 E55.1
  have f56 : Old Z n0 h55 := f48.ext E55
  have f57 : Arv Z h55 b30 k30 .char (1 : Int32) [(.int (nar .char (own_ch p1)))] (.int (0 : Int32)) := f49.ext E55
  have f58 : Exa Z h55 b39 "com/example/brelok/brelok/perf/Timing$Measure" := f50.ext E55
  have f59 : Fld Z h55 b39 "com/example/brelok/brelok/perf/Timing$Measure" "figure" "D" (.double (FP.i2d (p6 &&& (65535 : Int32)))) := f51.ext E55
  have f60 : Fld Z h55 b39 "com/example/brelok/brelok/perf/Timing$Measure" "overlaps" "J" (.long o1) := f52.ext E55
  have f61 : Fld Z h55 b39 "com/example/brelok/brelok/perf/Timing$Measure" "lostUpdates" "J" (.long l1) := f53.ext E55
  have f62 : Exa Z h55 b55 "com/example/brelok/brelok/perf/Timing$Measure" := A55
  have f63 : Fld Z h55 b55 "com/example/brelok/brelok/perf/Timing$Measure" "figure" "D" (.double (0 : UInt64)) := D55 (Or.inr (hw _ (List.mem_of_getElem? (i := 18) rfl))) (ty := .double) (by decide)
  have f64 : Fld Z h55 b55 "com/example/brelok/brelok/perf/Timing$Measure" "overlaps" "J" (.long (0 : Int64)) := D55 (Or.inr (hw _ (List.mem_of_getElem? (i := 20) rfl))) (ty := .long) (by decide)
  have f65 : Fld Z h55 b55 "com/example/brelok/brelok/perf/Timing$Measure" "lostUpdates" "J" (.long (0 : Int64)) := D55 (Or.inr (hw _ (List.mem_of_getElem? (i := 22) rfl))) (ty := .long) (by decide)
  have sg66 : ∀ target, Steps p.tables e below (T55.setTop (mkF m 164 #[.val (.int p1), .val (.long q2), .second, .val (.long q3), .second, .val (.long q4), .second, .val (.long q5), .second, .val (.int p6), .val (.int ex), .val (.int fc), .val (.int fw), .val (.long o1), .second, .val (.long l1), .second, .val (.long o2), .second, .val (.long l2), .second, .val (.ref b30), .val (.double (FP.i2d (p6 &&& (65535 : Int32)))), .second, .val (.ref b39), .unset, .unset, .unset, .unset, .unset, .unset] [(.long l2), (.long o2), (.double (FP.i2d (p6 &&& (65535 : Int32)))), (.ref b55), (.ref b55)])) target → Steps p.tables e below (T55.setTop (mkF m 157 #[.val (.int p1), .val (.long q2), .second, .val (.long q3), .second, .val (.long q4), .second, .val (.long q5), .second, .val (.int p6), .val (.int ex), .val (.int fc), .val (.int fw), .val (.long o1), .second, .val (.long l1), .second, .val (.long o2), .second, .val (.long l2), .second, .val (.ref b30), .val (.double (FP.i2d (p6 &&& (65535 : Int32)))), .second, .val (.ref b39), .unset, .unset, .unset, .unset, .unset, .unset] [(.ref b55)])) target := by
    intro target kt
    show Steps p.tables e below (T55.setTop (mkF m 157 #[.val (.int p1), .val (.long q2), .second, .val (.long q3), .second, .val (.long q4), .second, .val (.long q5), .second, .val (.int p6), .val (.int ex), .val (.int fc), .val (.int fw), .val (.long o1), .second, .val (.long l1), .second, .val (.long o2), .second, .val (.long l2), .second, .val (.ref b30), .val (.double (FP.i2d (p6 &&& (65535 : Int32)))), .second, .val (.ref b39), .unset, .unset, .unset, .unset, .unset, .unset] [(.ref b55)])) _
    refine XS.dup X55.here hx rfl (hb hby at_157) rfl rfl ?_
    show Steps p.tables e below (T55.setTop (mkF m 158 #[.val (.int p1), .val (.long q2), .second, .val (.long q3), .second, .val (.long q4), .second, .val (.long q5), .second, .val (.int p6), .val (.int ex), .val (.int fc), .val (.int fw), .val (.long o1), .second, .val (.long l1), .second, .val (.long o2), .second, .val (.long l2), .second, .val (.ref b30), .val (.double (FP.i2d (p6 &&& (65535 : Int32)))), .second, .val (.ref b39), .unset, .unset, .unset, .unset, .unset, .unset] [(.ref b55), (.ref b55)])) _
    refine XS.dload X55.here hx rfl (hb hby at_158) rfl ?_
    show Steps p.tables e below (T55.setTop (mkF m 160 #[.val (.int p1), .val (.long q2), .second, .val (.long q3), .second, .val (.long q4), .second, .val (.long q5), .second, .val (.int p6), .val (.int ex), .val (.int fc), .val (.int fw), .val (.long o1), .second, .val (.long l1), .second, .val (.long o2), .second, .val (.long l2), .second, .val (.ref b30), .val (.double (FP.i2d (p6 &&& (65535 : Int32)))), .second, .val (.ref b39), .unset, .unset, .unset, .unset, .unset, .unset] [(.double (FP.i2d (p6 &&& (65535 : Int32)))), (.ref b55), (.ref b55)])) _
    refine XS.lload X55.here hx rfl (hb hby at_160) rfl ?_
    show Steps p.tables e below (T55.setTop (mkF m 162 #[.val (.int p1), .val (.long q2), .second, .val (.long q3), .second, .val (.long q4), .second, .val (.long q5), .second, .val (.int p6), .val (.int ex), .val (.int fc), .val (.int fw), .val (.long o1), .second, .val (.long l1), .second, .val (.long o2), .second, .val (.long l2), .second, .val (.ref b30), .val (.double (FP.i2d (p6 &&& (65535 : Int32)))), .second, .val (.ref b39), .unset, .unset, .unset, .unset, .unset, .unset] [(.long o2), (.double (FP.i2d (p6 &&& (65535 : Int32)))), (.ref b55), (.ref b55)])) _
    refine XS.lload X55.here hx rfl (hb hby at_162) rfl ?_
    exact kt
  obtain ⟨_, _, ⟨T67, L67, k67, n67⟩, -, X67, ⟨Lc67, hQ67, l67, y67, z67⟩, st67⟩ := X55.specialBack hx (y := (⟨"com/example/brelok/brelok/perf/Timing$Measure", "<init>", "(DJJ)V"⟩ : MethodName)) rfl hown (mvT hZ (hw _ (List.mem_of_getElem? (i := 6) rfl))) (mvT hZ (hw _ (List.mem_of_getElem? (i := 7) rfl))) (mvT hZ (hw _ (List.mem_of_getElem? (i := 8) rfl))) (by decide) (backOf (W := 1) (rm1 l Z a0 hw [] b55 (FP.i2d (p6 &&& (65535 : Int32))) o2 l2 h55 n0 Zs55 f62 f63 f64 f65 g_b55) hZ (hw _ (List.mem_of_getElem? (i := 8) rfl)) (hw _ (List.mem_of_getElem? (i := 5) rfl)) (by decide) (by decide)) (g := (mkF m 164 #[.val (.int p1), .val (.long q2), .second, .val (.long q3), .second, .val (.long q4), .second, .val (.long q5), .second, .val (.int p6), .val (.int ex), .val (.int fc), .val (.int fw), .val (.long o1), .second, .val (.long l1), .second, .val (.long o2), .second, .val (.long l2), .second, .val (.ref b30), .val (.double (FP.i2d (p6 &&& (65535 : Int32)))), .second, .val (.ref b39), .unset, .unset, .unset, .unset, .unset, .unset] [(.long l2), (.long o2), (.double (FP.i2d (p6 &&& (65535 : Int32)))), (.ref b55), (.ref b55)])) rfl (by rw [hml]; rfl) (Steps.refl _) (a := b55) (argsL := [(.double (FP.i2d (p6 &&& (65535 : Int32)))), (.long o2), (.long l2)]) (rest := [(.ref b55)]) (lenOf pd_8 rfl) rfl (by show 2 * 0 + _ ≤ _; exact Nat.le_of_eq rfl) (hb hby at_164) (fun _ _ => ⟨rfl, e55, (by decide : 3 + 0 ≤ _), (by decide : 7 + 0 ≤ _)⟩)
  dsimp only [Pt.U, Pt.locs, Pt.cells, Pt.slots] at X67 l67 y67 z67 st67 hQ67
  subst l67 y67 z67
  obtain ⟨rfl, N67q, c67_0, c67_1, c67_2, c67_3, c67_4⟩ := hQ67
  have N67 := Fr.app N47 N67q
  have Zs67 : n0 ≤ T67.heap.size := Nat.le_trans Zs55 c67_0.1
  have f68 : Old Z n0 T67.heap := f56.keep c67_0 (allS g_b55 all0)
  have f69 : Arv Z T67.heap b30 k30 .char (1 : Int32) [(.int (nar .char (own_ch p1)))] (.int (0 : Int32)) := f57.keep c67_0 (ninS ne_b30_b55 nin0)
  have f70 : Exa Z T67.heap b39 "com/example/brelok/brelok/perf/Timing$Measure" := f58.keep c67_0
  have f71 : Fld Z T67.heap b39 "com/example/brelok/brelok/perf/Timing$Measure" "figure" "D" (.double (FP.i2d (p6 &&& (65535 : Int32)))) := f59.keep c67_0 (ninS ne_b39_b55 nin0)
  have f72 : Fld Z T67.heap b39 "com/example/brelok/brelok/perf/Timing$Measure" "overlaps" "J" (.long o1) := f60.keep c67_0 (ninS ne_b39_b55 nin0)
  have f73 : Fld Z T67.heap b39 "com/example/brelok/brelok/perf/Timing$Measure" "lostUpdates" "J" (.long l1) := f61.keep c67_0 (ninS ne_b39_b55 nin0)
  have f74 : Exa Z T67.heap b55 "com/example/brelok/brelok/perf/Timing$Measure" := c67_1
  have f75 : Fld Z T67.heap b55 "com/example/brelok/brelok/perf/Timing$Measure" "figure" "D" (.double (FP.i2d (p6 &&& (65535 : Int32)))) := c67_2
  have f76 : Fld Z T67.heap b55 "com/example/brelok/brelok/perf/Timing$Measure" "overlaps" "J" (.long o2) := c67_3
  have f77 : Fld Z T67.heap b55 "com/example/brelok/brelok/perf/Timing$Measure" "lostUpdates" "J" (.long l2) := c67_4
  have sg78 : ∀ target, Steps p.tables e below (T67.setTop (mkF m 169 #[.val (.int p1), .val (.long q2), .second, .val (.long q3), .second, .val (.long q4), .second, .val (.long q5), .second, .val (.int p6), .val (.int ex), .val (.int fc), .val (.int fw), .val (.long o1), .second, .val (.long l1), .second, .val (.long o2), .second, .val (.long l2), .second, .val (.ref b30), .val (.double (FP.i2d (p6 &&& (65535 : Int32)))), .second, .val (.ref b39), .val (.ref b55), .unset, .unset, .unset, .unset, .unset] [])) target → Steps p.tables e below (T67.setTop (mkF m 167 #[.val (.int p1), .val (.long q2), .second, .val (.long q3), .second, .val (.long q4), .second, .val (.long q5), .second, .val (.int p6), .val (.int ex), .val (.int fc), .val (.int fw), .val (.long o1), .second, .val (.long l1), .second, .val (.long o2), .second, .val (.long l2), .second, .val (.ref b30), .val (.double (FP.i2d (p6 &&& (65535 : Int32)))), .second, .val (.ref b39), .unset, .unset, .unset, .unset, .unset, .unset] [(.ref b55)])) target := by
    intro target kt
    show Steps p.tables e below (T67.setTop (mkF m 167 #[.val (.int p1), .val (.long q2), .second, .val (.long q3), .second, .val (.long q4), .second, .val (.long q5), .second, .val (.int p6), .val (.int ex), .val (.int fc), .val (.int fw), .val (.long o1), .second, .val (.long l1), .second, .val (.long o2), .second, .val (.long l2), .second, .val (.ref b30), .val (.double (FP.i2d (p6 &&& (65535 : Int32)))), .second, .val (.ref b39), .unset, .unset, .unset, .unset, .unset, .unset] [(.ref b55)])) _
    refine XS.astore X67.here hx rfl (hb hby at_167) rfl rfl (l' := #[.val (.int p1), .val (.long q2), .second, .val (.long q3), .second, .val (.long q4), .second, .val (.long q5), .second, .val (.int p6), .val (.int ex), .val (.int fc), .val (.int fw), .val (.long o1), .second, .val (.long l1), .second, .val (.long o2), .second, .val (.long l2), .second, .val (.ref b30), .val (.double (FP.i2d (p6 &&& (65535 : Int32)))), .second, .val (.ref b39), .val (.ref b55), .unset, .unset, .unset, .unset, .unset]) rfl ?_
    exact kt
  obtain ⟨T79, h79, X79, e79, E79, A79, D79, -, st79⟩ := newO X67 hx hZ hown (hw _ (List.mem_of_getElem? (i := 23) rfl)) (hw _ (List.mem_of_getElem? (i := 24) rfl)) (hw _ (List.mem_of_getElem? (i := 25) rfl)) rfl (g := (mkF m 169 #[.val (.int p1), .val (.long q2), .second, .val (.long q3), .second, .val (.long q4), .second, .val (.long q5), .second, .val (.int p6), .val (.int ex), .val (.int fc), .val (.int fw), .val (.long o1), .second, .val (.long l1), .second, .val (.long o2), .second, .val (.long l2), .second, .val (.ref b30), .val (.double (FP.i2d (p6 &&& (65535 : Int32)))), .second, .val (.ref b39), .val (.ref b55), .unset, .unset, .unset, .unset, .unset] [])) rfl (hb hby at_169) (by decide) (by decide)
  obtain ⟨b79, g79⟩ : ∃ z, z = T67.heap.size := ⟨_, rfl⟩
  rw [← g79] at A79 D79 st79
  have g_b79 : n0 ≤ b79 := Nat.le_trans Zs67 (Nat.le_of_eq g79.symm)
  have ne_b30_b79 : b30 ≠ b79 := Nat.ne_of_lt (Nat.lt_of_lt_of_le f69.lt (Nat.le_of_eq g79.symm))
  have ne_b39_b79 : b39 ≠ b79 := Nat.ne_of_lt (Nat.lt_of_lt_of_le f70.lt (Nat.le_of_eq g79.symm))
  have ne_b55_b79 : b55 ≠ b79 := Nat.ne_of_lt (Nat.lt_of_lt_of_le f74.lt (Nat.le_of_eq g79.symm))
  have Zs79 : n0 ≤ h79.size := Nat.le_trans Zs67 E79.1
  have f80 : Old Z n0 h79 := f68.ext E79
  have f81 : Arv Z h79 b30 k30 .char (1 : Int32) [(.int (nar .char (own_ch p1)))] (.int (0 : Int32)) := f69.ext E79
  have f82 : Exa Z h79 b39 "com/example/brelok/brelok/perf/Timing$Measure" := f70.ext E79
  have f83 : Fld Z h79 b39 "com/example/brelok/brelok/perf/Timing$Measure" "figure" "D" (.double (FP.i2d (p6 &&& (65535 : Int32)))) := f71.ext E79
  have f84 : Fld Z h79 b39 "com/example/brelok/brelok/perf/Timing$Measure" "overlaps" "J" (.long o1) := f72.ext E79
  have f85 : Fld Z h79 b39 "com/example/brelok/brelok/perf/Timing$Measure" "lostUpdates" "J" (.long l1) := f73.ext E79
  have f86 : Exa Z h79 b55 "com/example/brelok/brelok/perf/Timing$Measure" := f74.ext E79
  have f87 : Fld Z h79 b55 "com/example/brelok/brelok/perf/Timing$Measure" "figure" "D" (.double (FP.i2d (p6 &&& (65535 : Int32)))) := f75.ext E79
  have f88 : Fld Z h79 b55 "com/example/brelok/brelok/perf/Timing$Measure" "overlaps" "J" (.long o2) := f76.ext E79
  have f89 : Fld Z h79 b55 "com/example/brelok/brelok/perf/Timing$Measure" "lostUpdates" "J" (.long l2) := f77.ext E79
  have f90 : Exa Z h79 b79 "com/example/brelok/brelok/perf/Tally" := A79
  have f91 : Fld Z h79 b79 "com/example/brelok/brelok/perf/Tally" "solo" "Ljava/util/List;" .null := D79 (Or.inr (hw _ (List.mem_of_getElem? (i := 82) rfl))) (ty := (.object "java/util/List")) (by decide)
  have f92 : Fld Z h79 b79 "com/example/brelok/brelok/perf/Tally" "contended" "Ljava/util/List;" .null := D79 (Or.inr (hw _ (List.mem_of_getElem? (i := 84) rfl))) (ty := (.object "java/util/List")) (by decide)
  have f93 : Fld Z h79 b79 "com/example/brelok/brelok/perf/Tally" "name" "Ljava/lang/String;" .null := D79 (Or.inr (hw _ (List.mem_of_getElem? (i := 86) rfl))) (ty := (.object "java/lang/String")) (by decide)
  have f94 : Fld Z h79 b79 "com/example/brelok/brelok/perf/Tally" "excludes" "Z" (.int (0 : Int32)) := D79 (Or.inr (hw _ (List.mem_of_getElem? (i := 88) rfl))) (ty := .boolean) (by decide)
  have f95 : Fld Z h79 b79 "com/example/brelok/brelok/perf/Tally" "overlaps" "J" (.long (0 : Int64)) := D79 (Or.inl (hw _ (List.mem_of_getElem? (i := 163) rfl))) (ty := .long) (by decide)
  have f96 : Fld Z h79 b79 "com/example/brelok/brelok/perf/Tally" "lostUpdates" "J" (.long (0 : Int64)) := D79 (Or.inl (hw _ (List.mem_of_getElem? (i := 170) rfl))) (ty := .long) (by decide)
  have f97 : Fld Z h79 b79 "com/example/brelok/brelok/perf/Tally" "waiting" "D" (.double (0 : UInt64)) := D79 (Or.inl (hw _ (List.mem_of_getElem? (i := 182) rfl))) (ty := .double) (by decide)
  have sg98 : ∀ target, Steps p.tables e below (T79.setTop (mkF m 173 #[.val (.int p1), .val (.long q2), .second, .val (.long q3), .second, .val (.long q4), .second, .val (.long q5), .second, .val (.int p6), .val (.int ex), .val (.int fc), .val (.int fw), .val (.long o1), .second, .val (.long l1), .second, .val (.long o2), .second, .val (.long l2), .second, .val (.ref b30), .val (.double (FP.i2d (p6 &&& (65535 : Int32)))), .second, .val (.ref b39), .val (.ref b55), .unset, .unset, .unset, .unset, .unset] [(.ref b79), (.ref b79)])) target → Steps p.tables e below (T79.setTop (mkF m 172 #[.val (.int p1), .val (.long q2), .second, .val (.long q3), .second, .val (.long q4), .second, .val (.long q5), .second, .val (.int p6), .val (.int ex), .val (.int fc), .val (.int fw), .val (.long o1), .second, .val (.long l1), .second, .val (.long o2), .second, .val (.long l2), .second, .val (.ref b30), .val (.double (FP.i2d (p6 &&& (65535 : Int32)))), .second, .val (.ref b39), .val (.ref b55), .unset, .unset, .unset, .unset, .unset] [(.ref b79)])) target := by
    intro target kt
    show Steps p.tables e below (T79.setTop (mkF m 172 #[.val (.int p1), .val (.long q2), .second, .val (.long q3), .second, .val (.long q4), .second, .val (.long q5), .second, .val (.int p6), .val (.int ex), .val (.int fc), .val (.int fw), .val (.long o1), .second, .val (.long l1), .second, .val (.long o2), .second, .val (.long l2), .second, .val (.ref b30), .val (.double (FP.i2d (p6 &&& (65535 : Int32)))), .second, .val (.ref b39), .val (.ref b55), .unset, .unset, .unset, .unset, .unset] [(.ref b79)])) _
    refine XS.dup X79.here hx rfl (hb hby at_172) rfl rfl ?_
    exact kt
  obtain ⟨T99, h99, X99, e99, E99, A99, D99, -, st99⟩ := newO X79 hx hZ hown (hw _ (List.mem_of_getElem? (i := 26) rfl)) (hw _ (List.mem_of_getElem? (i := 27) rfl)) (hw _ (List.mem_of_getElem? (i := 28) rfl)) e79 (g := (mkF m 173 #[.val (.int p1), .val (.long q2), .second, .val (.long q3), .second, .val (.long q4), .second, .val (.long q5), .second, .val (.int p6), .val (.int ex), .val (.int fc), .val (.int fw), .val (.long o1), .second, .val (.long l1), .second, .val (.long o2), .second, .val (.long l2), .second, .val (.ref b30), .val (.double (FP.i2d (p6 &&& (65535 : Int32)))), .second, .val (.ref b39), .val (.ref b55), .unset, .unset, .unset, .unset, .unset] [(.ref b79), (.ref b79)])) rfl (hb hby at_173) (by decide) (by decide)
  obtain ⟨b99, g99⟩ : ∃ z, z = h79.size := ⟨_, rfl⟩
  rw [← g99] at A99 D99 st99
  have g_b99 : n0 ≤ b99 := Nat.le_trans Zs79 (Nat.le_of_eq g99.symm)
  have ne_b30_b99 : b30 ≠ b99 := Nat.ne_of_lt (Nat.lt_of_lt_of_le f81.lt (Nat.le_of_eq g99.symm))
  have ne_b39_b99 : b39 ≠ b99 := Nat.ne_of_lt (Nat.lt_of_lt_of_le f82.lt (Nat.le_of_eq g99.symm))
  have ne_b55_b99 : b55 ≠ b99 := Nat.ne_of_lt (Nat.lt_of_lt_of_le f86.lt (Nat.le_of_eq g99.symm))
  have ne_b79_b99 : b79 ≠ b99 := Nat.ne_of_lt (Nat.lt_of_lt_of_le f90.lt (Nat.le_of_eq g99.symm))
  have Zs99 : n0 ≤ h99.size := Nat.le_trans Zs79 E99.1
  have f100 : Old Z n0 h99 := f80.ext E99
  have f101 : Arv Z h99 b30 k30 .char (1 : Int32) [(.int (nar .char (own_ch p1)))] (.int (0 : Int32)) := f81.ext E99
  have f102 : Exa Z h99 b39 "com/example/brelok/brelok/perf/Timing$Measure" := f82.ext E99
  have f103 : Fld Z h99 b39 "com/example/brelok/brelok/perf/Timing$Measure" "figure" "D" (.double (FP.i2d (p6 &&& (65535 : Int32)))) := f83.ext E99
  have f104 : Fld Z h99 b39 "com/example/brelok/brelok/perf/Timing$Measure" "overlaps" "J" (.long o1) := f84.ext E99
  have f105 : Fld Z h99 b39 "com/example/brelok/brelok/perf/Timing$Measure" "lostUpdates" "J" (.long l1) := f85.ext E99
  have f106 : Exa Z h99 b55 "com/example/brelok/brelok/perf/Timing$Measure" := f86.ext E99
  have f107 : Fld Z h99 b55 "com/example/brelok/brelok/perf/Timing$Measure" "figure" "D" (.double (FP.i2d (p6 &&& (65535 : Int32)))) := f87.ext E99
  have f108 : Fld Z h99 b55 "com/example/brelok/brelok/perf/Timing$Measure" "overlaps" "J" (.long o2) := f88.ext E99
  have f109 : Fld Z h99 b55 "com/example/brelok/brelok/perf/Timing$Measure" "lostUpdates" "J" (.long l2) := f89.ext E99
  have f110 : Exa Z h99 b79 "com/example/brelok/brelok/perf/Tally" := f90.ext E99
  have f111 : Fld Z h99 b79 "com/example/brelok/brelok/perf/Tally" "solo" "Ljava/util/List;" .null := f91.ext E99
  have f112 : Fld Z h99 b79 "com/example/brelok/brelok/perf/Tally" "contended" "Ljava/util/List;" .null := f92.ext E99
  have f113 : Fld Z h99 b79 "com/example/brelok/brelok/perf/Tally" "name" "Ljava/lang/String;" .null := f93.ext E99
  have f114 : Fld Z h99 b79 "com/example/brelok/brelok/perf/Tally" "excludes" "Z" (.int (0 : Int32)) := f94.ext E99
  have f115 : Fld Z h99 b79 "com/example/brelok/brelok/perf/Tally" "overlaps" "J" (.long (0 : Int64)) := f95.ext E99
  have f116 : Fld Z h99 b79 "com/example/brelok/brelok/perf/Tally" "lostUpdates" "J" (.long (0 : Int64)) := f96.ext E99
  have f117 : Fld Z h99 b79 "com/example/brelok/brelok/perf/Tally" "waiting" "D" (.double (0 : UInt64)) := f97.ext E99
  have f118 : Exa Z h99 b99 "java/lang/String" := A99
  have f119 : Fld Z h99 b99 "java/lang/String" "coder" "B" (.int (0 : Int32)) := D99 (Or.inr (hw _ (List.mem_of_getElem? (i := 50) rfl))) (ty := .byte) (by decide)
  have f120 : Fld Z h99 b99 "java/lang/String" "value" "[B" .null := D99 (Or.inr (hw _ (List.mem_of_getElem? (i := 52) rfl))) (ty := (.array .byte)) (by decide)
  have sg121 : ∀ target, Steps p.tables e below (T99.setTop (mkF m 179 #[.val (.int p1), .val (.long q2), .second, .val (.long q3), .second, .val (.long q4), .second, .val (.long q5), .second, .val (.int p6), .val (.int ex), .val (.int fc), .val (.int fw), .val (.long o1), .second, .val (.long l1), .second, .val (.long o2), .second, .val (.long l2), .second, .val (.ref b30), .val (.double (FP.i2d (p6 &&& (65535 : Int32)))), .second, .val (.ref b39), .val (.ref b55), .unset, .unset, .unset, .unset, .unset] [(.ref b30), (.ref b99), (.ref b99), (.ref b79), (.ref b79)])) target → Steps p.tables e below (T99.setTop (mkF m 176 #[.val (.int p1), .val (.long q2), .second, .val (.long q3), .second, .val (.long q4), .second, .val (.long q5), .second, .val (.int p6), .val (.int ex), .val (.int fc), .val (.int fw), .val (.long o1), .second, .val (.long l1), .second, .val (.long o2), .second, .val (.long l2), .second, .val (.ref b30), .val (.double (FP.i2d (p6 &&& (65535 : Int32)))), .second, .val (.ref b39), .val (.ref b55), .unset, .unset, .unset, .unset, .unset] [(.ref b99), (.ref b79), (.ref b79)])) target := by
    intro target kt
    show Steps p.tables e below (T99.setTop (mkF m 176 #[.val (.int p1), .val (.long q2), .second, .val (.long q3), .second, .val (.long q4), .second, .val (.long q5), .second, .val (.int p6), .val (.int ex), .val (.int fc), .val (.int fw), .val (.long o1), .second, .val (.long l1), .second, .val (.long o2), .second, .val (.long l2), .second, .val (.ref b30), .val (.double (FP.i2d (p6 &&& (65535 : Int32)))), .second, .val (.ref b39), .val (.ref b55), .unset, .unset, .unset, .unset, .unset] [(.ref b99), (.ref b79), (.ref b79)])) _
    refine XS.dup X99.here hx rfl (hb hby at_176) rfl rfl ?_
    show Steps p.tables e below (T99.setTop (mkF m 177 #[.val (.int p1), .val (.long q2), .second, .val (.long q3), .second, .val (.long q4), .second, .val (.long q5), .second, .val (.int p6), .val (.int ex), .val (.int fc), .val (.int fw), .val (.long o1), .second, .val (.long l1), .second, .val (.long o2), .second, .val (.long l2), .second, .val (.ref b30), .val (.double (FP.i2d (p6 &&& (65535 : Int32)))), .second, .val (.ref b39), .val (.ref b55), .unset, .unset, .unset, .unset, .unset] [(.ref b99), (.ref b99), (.ref b79), (.ref b79)])) _
    refine XS.aload X99.here hx rfl (hb hby at_177) rfl rfl ?_
    exact kt
  have hws : ∀ d ∈ StrChars.Road.words, d.before a0 Z = true := fun d hd => hw d ((by decide +kernel : ∀ d ∈ StrChars.Road.words, d ∈ tables_1) d hd)
  obtain ⟨_, _, ⟨T122, L122, k122, n122⟩, -, X122, ⟨Lc122, hQ122, l122, y122, z122⟩, st122⟩ := X99.specialBack hx (y := (⟨"java/lang/String", "<init>", "([C)V"⟩ : MethodName)) rfl hown (mvT hZ (hw _ (List.mem_of_getElem? (i := 29) rfl))) (mvT hZ (hw _ (List.mem_of_getElem? (i := 30) rfl))) (mvT hZ (hw _ (List.mem_of_getElem? (i := 31) rfl))) (by decide) (StrChars.Road.backV (W := 3) hZ hws (kI := 4) (hw _ (List.mem_of_getElem? (i := 27) rfl)) (cs := [nar .char (own_ch p1)]) (bs := [(nar .char (own_ch p1)).toInt8.toInt32]) (n := 1) g_b99 Zs99 f118 f120 f119 f101 (S1.ext f100.2) P3 rfl rfl (by decide) (by decide) (own_hlat p1) rfl (by decide) (by decide)) (g := (mkF m 179 #[.val (.int p1), .val (.long q2), .second, .val (.long q3), .second, .val (.long q4), .second, .val (.long q5), .second, .val (.int p6), .val (.int ex), .val (.int fc), .val (.int fw), .val (.long o1), .second, .val (.long l1), .second, .val (.long o2), .second, .val (.long l2), .second, .val (.ref b30), .val (.double (FP.i2d (p6 &&& (65535 : Int32)))), .second, .val (.ref b39), .val (.ref b55), .unset, .unset, .unset, .unset, .unset] [(.ref b30), (.ref b99), (.ref b99), (.ref b79), (.ref b79)])) rfl (by rw [hml]; rfl) (Steps.refl _) (a := b99) (argsL := [(.ref b30)]) (rest := [(.ref b99), (.ref b79), (.ref b79)]) (lenOf pd_16 rfl) rfl (by show 2 * 0 + _ ≤ _; exact Nat.le_of_eq rfl) (hb hby at_179) (fun _ _ => ⟨rfl, e99, (by decide : 5 + 1 ≤ _), (by decide : 18 + 1 ≤ _)⟩)
  dsimp only [Pt.U, Pt.locs, Pt.cells, Pt.slots] at X122 l122 y122 z122 st122 hQ122
  subst l122 y122 z122
  obtain ⟨rfl, N122q, c122_0, c122_1, c122_2, -⟩ := hQ122
  have N122 := Fr.app N67 N122q
  have Zs122 : n0 ≤ T122.heap.size := Nat.le_trans Zs99 c122_0.1
  have f123 : Old Z n0 T122.heap := f100.keep c122_0 (allS g_b99 all0)
  have f124 : Arv Z T122.heap b30 k30 .char (1 : Int32) [(.int (nar .char (own_ch p1)))] (.int (0 : Int32)) := f101.keep c122_0 (ninS ne_b30_b99 nin0)
  have f125 : Exa Z T122.heap b39 "com/example/brelok/brelok/perf/Timing$Measure" := f102.keep c122_0
  have f126 : Fld Z T122.heap b39 "com/example/brelok/brelok/perf/Timing$Measure" "figure" "D" (.double (FP.i2d (p6 &&& (65535 : Int32)))) := f103.keep c122_0 (ninS ne_b39_b99 nin0)
  have f127 : Fld Z T122.heap b39 "com/example/brelok/brelok/perf/Timing$Measure" "overlaps" "J" (.long o1) := f104.keep c122_0 (ninS ne_b39_b99 nin0)
  have f128 : Fld Z T122.heap b39 "com/example/brelok/brelok/perf/Timing$Measure" "lostUpdates" "J" (.long l1) := f105.keep c122_0 (ninS ne_b39_b99 nin0)
  have f129 : Exa Z T122.heap b55 "com/example/brelok/brelok/perf/Timing$Measure" := f106.keep c122_0
  have f130 : Fld Z T122.heap b55 "com/example/brelok/brelok/perf/Timing$Measure" "figure" "D" (.double (FP.i2d (p6 &&& (65535 : Int32)))) := f107.keep c122_0 (ninS ne_b55_b99 nin0)
  have f131 : Fld Z T122.heap b55 "com/example/brelok/brelok/perf/Timing$Measure" "overlaps" "J" (.long o2) := f108.keep c122_0 (ninS ne_b55_b99 nin0)
  have f132 : Fld Z T122.heap b55 "com/example/brelok/brelok/perf/Timing$Measure" "lostUpdates" "J" (.long l2) := f109.keep c122_0 (ninS ne_b55_b99 nin0)
  have f133 : Exa Z T122.heap b79 "com/example/brelok/brelok/perf/Tally" := f110.keep c122_0
  have f134 : Fld Z T122.heap b79 "com/example/brelok/brelok/perf/Tally" "solo" "Ljava/util/List;" .null := f111.keep c122_0 (ninS ne_b79_b99 nin0)
  have f135 : Fld Z T122.heap b79 "com/example/brelok/brelok/perf/Tally" "contended" "Ljava/util/List;" .null := f112.keep c122_0 (ninS ne_b79_b99 nin0)
  have f136 : Fld Z T122.heap b79 "com/example/brelok/brelok/perf/Tally" "name" "Ljava/lang/String;" .null := f113.keep c122_0 (ninS ne_b79_b99 nin0)
  have f137 : Fld Z T122.heap b79 "com/example/brelok/brelok/perf/Tally" "excludes" "Z" (.int (0 : Int32)) := f114.keep c122_0 (ninS ne_b79_b99 nin0)
  have f138 : Fld Z T122.heap b79 "com/example/brelok/brelok/perf/Tally" "overlaps" "J" (.long (0 : Int64)) := f115.keep c122_0 (ninS ne_b79_b99 nin0)
  have f139 : Fld Z T122.heap b79 "com/example/brelok/brelok/perf/Tally" "lostUpdates" "J" (.long (0 : Int64)) := f116.keep c122_0 (ninS ne_b79_b99 nin0)
  have f140 : Fld Z T122.heap b79 "com/example/brelok/brelok/perf/Tally" "waiting" "D" (.double (0 : UInt64)) := f117.keep c122_0 (ninS ne_b79_b99 nin0)
  have f141 : Exa Z T122.heap b99 "java/lang/String" := c122_1
  have f142 : Fld Z T122.heap b99 "java/lang/String" "coder" "B" (.int (0 : Int32)) := c122_2
  have sg143 : ∀ target, Steps p.tables e below (T122.setTop (mkF m 184 #[.val (.int p1), .val (.long q2), .second, .val (.long q3), .second, .val (.long q4), .second, .val (.long q5), .second, .val (.int p6), .val (.int ex), .val (.int fc), .val (.int fw), .val (.long o1), .second, .val (.long l1), .second, .val (.long o2), .second, .val (.long l2), .second, .val (.ref b30), .val (.double (FP.i2d (p6 &&& (65535 : Int32)))), .second, .val (.ref b39), .val (.ref b55), .unset, .unset, .unset, .unset, .unset] [(.int ex), (.ref b99), (.ref b79), (.ref b79)])) target → Steps p.tables e below (T122.setTop (mkF m 182 #[.val (.int p1), .val (.long q2), .second, .val (.long q3), .second, .val (.long q4), .second, .val (.long q5), .second, .val (.int p6), .val (.int ex), .val (.int fc), .val (.int fw), .val (.long o1), .second, .val (.long l1), .second, .val (.long o2), .second, .val (.long l2), .second, .val (.ref b30), .val (.double (FP.i2d (p6 &&& (65535 : Int32)))), .second, .val (.ref b39), .val (.ref b55), .unset, .unset, .unset, .unset, .unset] [(.ref b99), (.ref b79), (.ref b79)])) target := by
    intro target kt
    show Steps p.tables e below (T122.setTop (mkF m 182 #[.val (.int p1), .val (.long q2), .second, .val (.long q3), .second, .val (.long q4), .second, .val (.long q5), .second, .val (.int p6), .val (.int ex), .val (.int fc), .val (.int fw), .val (.long o1), .second, .val (.long l1), .second, .val (.long o2), .second, .val (.long l2), .second, .val (.ref b30), .val (.double (FP.i2d (p6 &&& (65535 : Int32)))), .second, .val (.ref b39), .val (.ref b55), .unset, .unset, .unset, .unset, .unset] [(.ref b99), (.ref b79), (.ref b79)])) _
    refine XS.iload X122.here hx rfl (hb hby at_182) rfl ?_
    exact kt
  obtain ⟨_, _, ⟨T144, L144, k144, n144⟩, -, X144, ⟨Lc144, hQ144, l144, y144, z144⟩, st144⟩ := X122.specialBack hx (y := (⟨"com/example/brelok/brelok/perf/Tally", "<init>", "(Ljava/lang/String;Z)V"⟩ : MethodName)) rfl hown (mvT hZ (hw _ (List.mem_of_getElem? (i := 53) rfl))) (mvT hZ (hw _ (List.mem_of_getElem? (i := 54) rfl))) (mvT hZ (hw _ (List.mem_of_getElem? (i := 55) rfl))) (by decide) (backOf (W := 1) (rm9 l Z a0 hw [] b79 b99 ex d0 T122.heap n0 Zs122 f133 f134 f135 f136 f137 f140 f138 f139 g_b79 f123 S0) hZ (hw _ (List.mem_of_getElem? (i := 55) rfl)) (hw _ (List.mem_of_getElem? (i := 25) rfl)) (by decide) (by decide)) (g := (mkF m 184 #[.val (.int p1), .val (.long q2), .second, .val (.long q3), .second, .val (.long q4), .second, .val (.long q5), .second, .val (.int p6), .val (.int ex), .val (.int fc), .val (.int fw), .val (.long o1), .second, .val (.long l1), .second, .val (.long o2), .second, .val (.long l2), .second, .val (.ref b30), .val (.double (FP.i2d (p6 &&& (65535 : Int32)))), .second, .val (.ref b39), .val (.ref b55), .unset, .unset, .unset, .unset, .unset] [(.int ex), (.ref b99), (.ref b79), (.ref b79)])) rfl (by rw [hml]; rfl) (Steps.refl _) (a := b79) (argsL := [(.ref b99), (.int ex)]) (rest := [(.ref b79)]) (lenOf pd_14 rfl) rfl (by show 2 * 0 + _ ≤ _; exact Nat.le_of_eq rfl) (hb hby at_184) (fun _ _ => ⟨rfl, rfl, (by decide : 6 + 2 ≤ _), (by decide : 19 + 6 ≤ _)⟩)
  dsimp only [Pt.U, Pt.locs, Pt.cells, Pt.slots] at X144 l144 y144 z144 st144 hQ144
  subst l144 y144 z144
  obtain ⟨lc_144, rfl, N144q, c144_0, c144_1, c144_2, c144_3, c144_4, c144_5, c144_6, c144_7, c144_8, c144_9, c144_10, c144_11, c144_12, c144_13⟩ := hQ144
  have N144 := Fr.app N122 N144q
  have Zs144 : n0 ≤ T144.heap.size := Nat.le_trans Zs122 c144_3.1
  have ne_b30_lc_144 : b30 ≠ lc_144 := Nat.ne_of_lt (Nat.lt_of_lt_of_le f124.lt c144_0)
  have ne_b39_lc_144 : b39 ≠ lc_144 := Nat.ne_of_lt (Nat.lt_of_lt_of_le f125.lt c144_0)
  have ne_b55_lc_144 : b55 ≠ lc_144 := Nat.ne_of_lt (Nat.lt_of_lt_of_le f129.lt c144_0)
  have ne_b79_lc_144 : b79 ≠ lc_144 := Nat.ne_of_lt (Nat.lt_of_lt_of_le f133.lt c144_0)
  have ne_b99_lc_144 : b99 ≠ lc_144 := Nat.ne_of_lt (Nat.lt_of_lt_of_le f141.lt c144_0)
  have f145 : Old Z n0 T144.heap := f123.keep c144_3 (allS g_b79 all0)
  have f146 : Arv Z T144.heap b30 k30 .char (1 : Int32) [(.int (nar .char (own_ch p1)))] (.int (0 : Int32)) := f124.keep c144_3 (ninS ne_b30_b79 nin0)
  have f147 : Exa Z T144.heap b39 "com/example/brelok/brelok/perf/Timing$Measure" := f125.keep c144_3
  have f148 : Fld Z T144.heap b39 "com/example/brelok/brelok/perf/Timing$Measure" "figure" "D" (.double (FP.i2d (p6 &&& (65535 : Int32)))) := f126.keep c144_3 (ninS ne_b39_b79 nin0)
  have f149 : Fld Z T144.heap b39 "com/example/brelok/brelok/perf/Timing$Measure" "overlaps" "J" (.long o1) := f127.keep c144_3 (ninS ne_b39_b79 nin0)
  have f150 : Fld Z T144.heap b39 "com/example/brelok/brelok/perf/Timing$Measure" "lostUpdates" "J" (.long l1) := f128.keep c144_3 (ninS ne_b39_b79 nin0)
  have f151 : Exa Z T144.heap b55 "com/example/brelok/brelok/perf/Timing$Measure" := f129.keep c144_3
  have f152 : Fld Z T144.heap b55 "com/example/brelok/brelok/perf/Timing$Measure" "figure" "D" (.double (FP.i2d (p6 &&& (65535 : Int32)))) := f130.keep c144_3 (ninS ne_b55_b79 nin0)
  have f153 : Fld Z T144.heap b55 "com/example/brelok/brelok/perf/Timing$Measure" "overlaps" "J" (.long o2) := f131.keep c144_3 (ninS ne_b55_b79 nin0)
  have f154 : Fld Z T144.heap b55 "com/example/brelok/brelok/perf/Timing$Measure" "lostUpdates" "J" (.long l2) := f132.keep c144_3 (ninS ne_b55_b79 nin0)
  have f155 : Exa Z T144.heap b99 "java/lang/String" := f141.keep c144_3
  have f156 : Fld Z T144.heap b99 "java/lang/String" "coder" "B" (.int (0 : Int32)) := f142.keep c144_3 (ninS (Ne.symm ne_b79_b99) nin0)
  have f157 : Exa Z T144.heap b79 "com/example/brelok/brelok/perf/Tally" := c144_4
  have f158 : Fld Z T144.heap b79 "com/example/brelok/brelok/perf/Tally" "contended" "Ljava/util/List;" (.ref lc_144) := c144_5
  have f159 : Fld Z T144.heap b79 "com/example/brelok/brelok/perf/Tally" "excludes" "Z" (.int (nar .boolean ex)) := c144_6
  have f160 : Fld Z T144.heap b79 "com/example/brelok/brelok/perf/Tally" "waiting" "D" (.double (0 : UInt64)) := c144_7
  have f161 : Fld Z T144.heap b79 "com/example/brelok/brelok/perf/Tally" "overlaps" "J" (.long (0 : Int64)) := c144_8
  have f162 : Fld Z T144.heap b79 "com/example/brelok/brelok/perf/Tally" "lostUpdates" "J" (.long (0 : Int64)) := c144_9
  have f163 : Exa Z T144.heap lc_144 "java/util/ArrayList" := c144_10
  have f164 : Fld Z T144.heap lc_144 "java/util/AbstractList" "modCount" "I" (.int (0 : Int32)) := c144_11
  have f165 : Fld Z T144.heap lc_144 "java/util/ArrayList" "elementData" "[Ljava/lang/Object;" (.ref d0) := c144_12
  have f166 : Fld Z T144.heap lc_144 "java/util/ArrayList" "size" "I" (.int (0 : Int32)) := c144_13
  have sg167 : ∀ target, Steps p.tables e below (T144.setTop (mkF m 191 #[.val (.int p1), .val (.long q2), .second, .val (.long q3), .second, .val (.long q4), .second, .val (.long q5), .second, .val (.int p6), .val (.int ex), .val (.int fc), .val (.int fw), .val (.long o1), .second, .val (.long l1), .second, .val (.long o2), .second, .val (.long l2), .second, .val (.ref b30), .val (.double (FP.i2d (p6 &&& (65535 : Int32)))), .second, .val (.ref b39), .val (.ref b55), .val (.ref b79), .unset, .unset, .unset, .unset] [(.ref b79)])) target → Steps p.tables e below (T144.setTop (mkF m 187 #[.val (.int p1), .val (.long q2), .second, .val (.long q3), .second, .val (.long q4), .second, .val (.long q5), .second, .val (.int p6), .val (.int ex), .val (.int fc), .val (.int fw), .val (.long o1), .second, .val (.long l1), .second, .val (.long o2), .second, .val (.long l2), .second, .val (.ref b30), .val (.double (FP.i2d (p6 &&& (65535 : Int32)))), .second, .val (.ref b39), .val (.ref b55), .unset, .unset, .unset, .unset, .unset] [(.ref b79)])) target := by
    intro target kt
    show Steps p.tables e below (T144.setTop (mkF m 187 #[.val (.int p1), .val (.long q2), .second, .val (.long q3), .second, .val (.long q4), .second, .val (.long q5), .second, .val (.int p6), .val (.int ex), .val (.int fc), .val (.int fw), .val (.long o1), .second, .val (.long l1), .second, .val (.long o2), .second, .val (.long l2), .second, .val (.ref b30), .val (.double (FP.i2d (p6 &&& (65535 : Int32)))), .second, .val (.ref b39), .val (.ref b55), .unset, .unset, .unset, .unset, .unset] [(.ref b79)])) _
    refine XS.astore X144.here hx rfl (hb hby at_187) rfl rfl (l' := #[.val (.int p1), .val (.long q2), .second, .val (.long q3), .second, .val (.long q4), .second, .val (.long q5), .second, .val (.int p6), .val (.int ex), .val (.int fc), .val (.int fw), .val (.long o1), .second, .val (.long l1), .second, .val (.long o2), .second, .val (.long l2), .second, .val (.ref b30), .val (.double (FP.i2d (p6 &&& (65535 : Int32)))), .second, .val (.ref b39), .val (.ref b55), .val (.ref b79), .unset, .unset, .unset, .unset]) rfl ?_
    show Steps p.tables e below (T144.setTop (mkF m 189 #[.val (.int p1), .val (.long q2), .second, .val (.long q3), .second, .val (.long q4), .second, .val (.long q5), .second, .val (.int p6), .val (.int ex), .val (.int fc), .val (.int fw), .val (.long o1), .second, .val (.long l1), .second, .val (.long o2), .second, .val (.long l2), .second, .val (.ref b30), .val (.double (FP.i2d (p6 &&& (65535 : Int32)))), .second, .val (.ref b39), .val (.ref b55), .val (.ref b79), .unset, .unset, .unset, .unset] [])) _
    refine XS.aload X144.here hx rfl (hb hby at_189) rfl rfl ?_
    exact kt
  obtain ⟨cq168, kq168, q168a, q168b, q168c⟩ := isOf hZ rfl f157
  obtain ⟨_, _, ⟨T168, L168, k168, n168⟩, -, X168, ⟨Lc168, hQ168, l168, y168, z168⟩, st168⟩ := X144.virtualBack hx (y := (⟨"com/example/brelok/brelok/perf/Tally", "failedToExclude", "()Z"⟩ : MethodName)) (z := (⟨"com/example/brelok/brelok/perf/Tally", "failedToExclude", "()Z"⟩ : MethodName)) hown (mvT hZ (hw _ (List.mem_of_getElem? (i := 89) rfl))) (mvT hZ (hw _ (List.mem_of_getElem? (i := 90) rfl))) (notFace_of_selects (args := #[]) (mvT hZ (hw _ (List.mem_of_getElem? (i := 92) rfl)))) (mvT hZ (hw _ (List.mem_of_getElem? (i := 92) rfl))) (mvT hZ (hw _ (List.mem_of_getElem? (i := 91) rfl))) (by decide) (backOf (W := 0) (rm13 l Z a0 hw [] b79 (nar .boolean ex) (0 : Int64) (0 : Int64) T144.heap n0 Zs144 f159 f161 f162) hZ (hw _ (List.mem_of_getElem? (i := 93) rfl)) (hw _ (List.mem_of_getElem? (i := 25) rfl)) (by decide) (by decide)) q168a q168c (g := (mkF m 191 #[.val (.int p1), .val (.long q2), .second, .val (.long q3), .second, .val (.long q4), .second, .val (.long q5), .second, .val (.int p6), .val (.int ex), .val (.int fc), .val (.int fw), .val (.long o1), .second, .val (.long l1), .second, .val (.long o2), .second, .val (.long l2), .second, .val (.ref b30), .val (.double (FP.i2d (p6 &&& (65535 : Int32)))), .second, .val (.ref b39), .val (.ref b55), .val (.ref b79), .unset, .unset, .unset, .unset] [(.ref b79)])) rfl (by rw [hml]; rfl) (Steps.refl _) (argsL := []) (rest := []) (lenOf pd_4 rfl) rfl (by show 2 * 0 + _ ≤ _; exact Nat.le_of_eq rfl) (hb hby at_191) (fun _ _ => ⟨rfl, rfl, (by decide : 8 + 0 ≤ _), (by decide : 25 + 0 ≤ _)⟩)
  dsimp only [Pt.U, Pt.locs, Pt.cells, Pt.slots] at X168 l168 y168 z168 st168 hQ168
  subst l168 y168 z168
  obtain ⟨rfl, N168q, c168_0⟩ := hQ168
  have N168 := Fr.app N144 N168q
  have sg169 : ∀ target, Steps p.tables e below (T168.setTop (mkF m 198 #[.val (.int p1), .val (.long q2), .second, .val (.long q3), .second, .val (.long q4), .second, .val (.long q5), .second, .val (.int p6), .val (.int ex), .val (.int fc), .val (.int fw), .val (.long o1), .second, .val (.long l1), .second, .val (.long o2), .second, .val (.long l2), .second, .val (.ref b30), .val (.double (FP.i2d (p6 &&& (65535 : Int32)))), .second, .val (.ref b39), .val (.ref b55), .val (.ref b79), .val (.int (own_vf (nar .boolean ex) (0 : Int64) (0 : Int64))), .unset, .unset, .unset] [(.int fc)])) target → Steps p.tables e below (T168.setTop (mkF m 194 #[.val (.int p1), .val (.long q2), .second, .val (.long q3), .second, .val (.long q4), .second, .val (.long q5), .second, .val (.int p6), .val (.int ex), .val (.int fc), .val (.int fw), .val (.long o1), .second, .val (.long l1), .second, .val (.long o2), .second, .val (.long l2), .second, .val (.ref b30), .val (.double (FP.i2d (p6 &&& (65535 : Int32)))), .second, .val (.ref b39), .val (.ref b55), .val (.ref b79), .unset, .unset, .unset, .unset] [(.int (own_vf (nar .boolean ex) (0 : Int64) (0 : Int64)))])) target := by
    intro target kt
    show Steps p.tables e below (T168.setTop (mkF m 194 #[.val (.int p1), .val (.long q2), .second, .val (.long q3), .second, .val (.long q4), .second, .val (.long q5), .second, .val (.int p6), .val (.int ex), .val (.int fc), .val (.int fw), .val (.long o1), .second, .val (.long l1), .second, .val (.long o2), .second, .val (.long l2), .second, .val (.ref b30), .val (.double (FP.i2d (p6 &&& (65535 : Int32)))), .second, .val (.ref b39), .val (.ref b55), .val (.ref b79), .unset, .unset, .unset, .unset] [(.int (own_vf (nar .boolean ex) (0 : Int64) (0 : Int64)))])) _
    refine XS.istore X168.here hx rfl (hb hby at_194) rfl (l' := #[.val (.int p1), .val (.long q2), .second, .val (.long q3), .second, .val (.long q4), .second, .val (.long q5), .second, .val (.int p6), .val (.int ex), .val (.int fc), .val (.int fw), .val (.long o1), .second, .val (.long l1), .second, .val (.long o2), .second, .val (.long l2), .second, .val (.ref b30), .val (.double (FP.i2d (p6 &&& (65535 : Int32)))), .second, .val (.ref b39), .val (.ref b55), .val (.ref b79), .val (.int (own_vf (nar .boolean ex) (0 : Int64) (0 : Int64))), .unset, .unset, .unset]) rfl ?_
    show Steps p.tables e below (T168.setTop (mkF m 196 #[.val (.int p1), .val (.long q2), .second, .val (.long q3), .second, .val (.long q4), .second, .val (.long q5), .second, .val (.int p6), .val (.int ex), .val (.int fc), .val (.int fw), .val (.long o1), .second, .val (.long l1), .second, .val (.long o2), .second, .val (.long l2), .second, .val (.ref b30), .val (.double (FP.i2d (p6 &&& (65535 : Int32)))), .second, .val (.ref b39), .val (.ref b55), .val (.ref b79), .val (.int (own_vf (nar .boolean ex) (0 : Int64) (0 : Int64))), .unset, .unset, .unset] [])) _
    refine XS.iload X168.here hx rfl (hb hby at_196) rfl ?_
    exact kt
  by_cases hc : fc = (0 : Int32)
  · have sg170 : ∀ target, Steps p.tables e below (T168.setTop (mkF m 210 #[.val (.int p1), .val (.long q2), .second, .val (.long q3), .second, .val (.long q4), .second, .val (.long q5), .second, .val (.int p6), .val (.int ex), .val (.int fc), .val (.int fw), .val (.long o1), .second, .val (.long l1), .second, .val (.long o2), .second, .val (.long l2), .second, .val (.ref b30), .val (.double (FP.i2d (p6 &&& (65535 : Int32)))), .second, .val (.ref b39), .val (.ref b55), .val (.ref b79), .val (.int (own_vf (nar .boolean ex) (0 : Int64) (0 : Int64))), .unset, .unset, .unset] [(.int fw)])) target → Steps p.tables e below (T168.setTop (mkF m 198 #[.val (.int p1), .val (.long q2), .second, .val (.long q3), .second, .val (.long q4), .second, .val (.long q5), .second, .val (.int p6), .val (.int ex), .val (.int fc), .val (.int fw), .val (.long o1), .second, .val (.long l1), .second, .val (.long o2), .second, .val (.long l2), .second, .val (.ref b30), .val (.double (FP.i2d (p6 &&& (65535 : Int32)))), .second, .val (.ref b39), .val (.ref b55), .val (.ref b79), .val (.int (own_vf (nar .boolean ex) (0 : Int64) (0 : Int64))), .unset, .unset, .unset] [(.int fc)])) target := by
      intro target kt
      show Steps p.tables e below (T168.setTop (mkF m 198 #[.val (.int p1), .val (.long q2), .second, .val (.long q3), .second, .val (.long q4), .second, .val (.long q5), .second, .val (.int p6), .val (.int ex), .val (.int fc), .val (.int fw), .val (.long o1), .second, .val (.long l1), .second, .val (.long o2), .second, .val (.long l2), .second, .val (.ref b30), .val (.double (FP.i2d (p6 &&& (65535 : Int32)))), .second, .val (.ref b39), .val (.ref b55), .val (.ref b79), .val (.int (own_vf (nar .boolean ex) (0 : Int64) (0 : Int64))), .unset, .unset, .unset] [(.int fc)])) _
      refine XS.ifYes X168.here hx rfl (pc0 := 198) (pc' := 208) rfl (hb hby at_198) rfl ((if0 _ _).trans (teq (hc : fc = (0 : Int32))).1) (by decide) (by decide) ?_
      show Steps p.tables e below (T168.setTop (mkF m 208 #[.val (.int p1), .val (.long q2), .second, .val (.long q3), .second, .val (.long q4), .second, .val (.long q5), .second, .val (.int p6), .val (.int ex), .val (.int fc), .val (.int fw), .val (.long o1), .second, .val (.long l1), .second, .val (.long o2), .second, .val (.long l2), .second, .val (.ref b30), .val (.double (FP.i2d (p6 &&& (65535 : Int32)))), .second, .val (.ref b39), .val (.ref b55), .val (.ref b79), .val (.int (own_vf (nar .boolean ex) (0 : Int64) (0 : Int64))), .unset, .unset, .unset] [])) _
      refine XS.iload X168.here hx rfl (hb hby at_208) rfl ?_
      exact kt
    by_cases hwv : fw = (0 : Int32)
    · have sg171 : ∀ target, Steps p.tables e below (T168.setTop (mkF m 274 #[.val (.int p1), .val (.long q2), .second, .val (.long q3), .second, .val (.long q4), .second, .val (.long q5), .second, .val (.int p6), .val (.int ex), .val (.int fc), .val (.int fw), .val (.long o1), .second, .val (.long l1), .second, .val (.long o2), .second, .val (.long l2), .second, .val (.ref b30), .val (.double (FP.i2d (p6 &&& (65535 : Int32)))), .second, .val (.ref b39), .val (.ref b55), .val (.ref b79), .val (.int (own_vf (nar .boolean ex) (0 : Int64) (0 : Int64))), .val (.int (0 : Int32)), .val (.int (0 : Int32)), .unset] [(.int ex)])) target → Steps p.tables e below (T168.setTop (mkF m 210 #[.val (.int p1), .val (.long q2), .second, .val (.long q3), .second, .val (.long q4), .second, .val (.long q5), .second, .val (.int p6), .val (.int ex), .val (.int fc), .val (.int fw), .val (.long o1), .second, .val (.long l1), .second, .val (.long o2), .second, .val (.long l2), .second, .val (.ref b30), .val (.double (FP.i2d (p6 &&& (65535 : Int32)))), .second, .val (.ref b39), .val (.ref b55), .val (.ref b79), .val (.int (own_vf (nar .boolean ex) (0 : Int64) (0 : Int64))), .unset, .unset, .unset] [(.int fw)])) target := by
        intro target kt
        show Steps p.tables e below (T168.setTop (mkF m 210 #[.val (.int p1), .val (.long q2), .second, .val (.long q3), .second, .val (.long q4), .second, .val (.long q5), .second, .val (.int p6), .val (.int ex), .val (.int fc), .val (.int fw), .val (.long o1), .second, .val (.long l1), .second, .val (.long o2), .second, .val (.long l2), .second, .val (.ref b30), .val (.double (FP.i2d (p6 &&& (65535 : Int32)))), .second, .val (.ref b39), .val (.ref b55), .val (.ref b79), .val (.int (own_vf (nar .boolean ex) (0 : Int64) (0 : Int64))), .unset, .unset, .unset] [(.int fw)])) _
        refine XS.ifYes X168.here hx rfl (pc0 := 210) (pc' := 220) rfl (hb hby at_210) rfl ((if0 _ _).trans (teq (hwv : fw = (0 : Int32))).1) (by decide) (by decide) ?_
        show Steps p.tables e below (T168.setTop (mkF m 220 #[.val (.int p1), .val (.long q2), .second, .val (.long q3), .second, .val (.long q4), .second, .val (.long q5), .second, .val (.int p6), .val (.int ex), .val (.int fc), .val (.int fw), .val (.long o1), .second, .val (.long l1), .second, .val (.long o2), .second, .val (.long l2), .second, .val (.ref b30), .val (.double (FP.i2d (p6 &&& (65535 : Int32)))), .second, .val (.ref b39), .val (.ref b55), .val (.ref b79), .val (.int (own_vf (nar .boolean ex) (0 : Int64) (0 : Int64))), .unset, .unset, .unset] [])) _
        refine XS.iload X168.here hx rfl (hb hby at_220) rfl ?_
        show Steps p.tables e below (T168.setTop (mkF m 222 #[.val (.int p1), .val (.long q2), .second, .val (.long q3), .second, .val (.long q4), .second, .val (.long q5), .second, .val (.int p6), .val (.int ex), .val (.int fc), .val (.int fw), .val (.long o1), .second, .val (.long l1), .second, .val (.long o2), .second, .val (.long l2), .second, .val (.ref b30), .val (.double (FP.i2d (p6 &&& (65535 : Int32)))), .second, .val (.ref b39), .val (.ref b55), .val (.ref b79), .val (.int (own_vf (nar .boolean ex) (0 : Int64) (0 : Int64))), .unset, .unset, .unset] [(.int fc)])) _
        refine XS.ifYes X168.here hx rfl (pc0 := 222) (pc' := 243) rfl (hb hby at_222) rfl ((if0 _ _).trans (teq (hc : fc = (0 : Int32))).1) (by decide) (by decide) ?_
        show Steps p.tables e below (T168.setTop (mkF m 243 #[.val (.int p1), .val (.long q2), .second, .val (.long q3), .second, .val (.long q4), .second, .val (.long q5), .second, .val (.int p6), .val (.int ex), .val (.int fc), .val (.int fw), .val (.long o1), .second, .val (.long l1), .second, .val (.long o2), .second, .val (.long l2), .second, .val (.ref b30), .val (.double (FP.i2d (p6 &&& (65535 : Int32)))), .second, .val (.ref b39), .val (.ref b55), .val (.ref b79), .val (.int (own_vf (nar .boolean ex) (0 : Int64) (0 : Int64))), .unset, .unset, .unset] [])) _
        refine XS.iconst X168.here hx rfl (hb hby at_243) ?_
        show Steps p.tables e below (T168.setTop (mkF m 244 #[.val (.int p1), .val (.long q2), .second, .val (.long q3), .second, .val (.long q4), .second, .val (.long q5), .second, .val (.int p6), .val (.int ex), .val (.int fc), .val (.int fw), .val (.long o1), .second, .val (.long l1), .second, .val (.long o2), .second, .val (.long l2), .second, .val (.ref b30), .val (.double (FP.i2d (p6 &&& (65535 : Int32)))), .second, .val (.ref b39), .val (.ref b55), .val (.ref b79), .val (.int (own_vf (nar .boolean ex) (0 : Int64) (0 : Int64))), .unset, .unset, .unset] [(.int (0 : Int32))])) _
        refine XS.istore X168.here hx rfl (hb hby at_244) rfl (l' := #[.val (.int p1), .val (.long q2), .second, .val (.long q3), .second, .val (.long q4), .second, .val (.long q5), .second, .val (.int p6), .val (.int ex), .val (.int fc), .val (.int fw), .val (.long o1), .second, .val (.long l1), .second, .val (.long o2), .second, .val (.long l2), .second, .val (.ref b30), .val (.double (FP.i2d (p6 &&& (65535 : Int32)))), .second, .val (.ref b39), .val (.ref b55), .val (.ref b79), .val (.int (own_vf (nar .boolean ex) (0 : Int64) (0 : Int64))), .val (.int (0 : Int32)), .unset, .unset]) rfl ?_
        show Steps p.tables e below (T168.setTop (mkF m 246 #[.val (.int p1), .val (.long q2), .second, .val (.long q3), .second, .val (.long q4), .second, .val (.long q5), .second, .val (.int p6), .val (.int ex), .val (.int fc), .val (.int fw), .val (.long o1), .second, .val (.long l1), .second, .val (.long o2), .second, .val (.long l2), .second, .val (.ref b30), .val (.double (FP.i2d (p6 &&& (65535 : Int32)))), .second, .val (.ref b39), .val (.ref b55), .val (.ref b79), .val (.int (own_vf (nar .boolean ex) (0 : Int64) (0 : Int64))), .val (.int (0 : Int32)), .unset, .unset] [])) _
        refine XS.iload X168.here hx rfl (hb hby at_246) rfl ?_
        show Steps p.tables e below (T168.setTop (mkF m 248 #[.val (.int p1), .val (.long q2), .second, .val (.long q3), .second, .val (.long q4), .second, .val (.long q5), .second, .val (.int p6), .val (.int ex), .val (.int fc), .val (.int fw), .val (.long o1), .second, .val (.long l1), .second, .val (.long o2), .second, .val (.long l2), .second, .val (.ref b30), .val (.double (FP.i2d (p6 &&& (65535 : Int32)))), .second, .val (.ref b39), .val (.ref b55), .val (.ref b79), .val (.int (own_vf (nar .boolean ex) (0 : Int64) (0 : Int64))), .val (.int (0 : Int32)), .unset, .unset] [(.int fw)])) _
        refine XS.ifYes X168.here hx rfl (pc0 := 248) (pc' := 269) rfl (hb hby at_248) rfl ((if0 _ _).trans (teq (hwv : fw = (0 : Int32))).1) (by decide) (by decide) ?_
        show Steps p.tables e below (T168.setTop (mkF m 269 #[.val (.int p1), .val (.long q2), .second, .val (.long q3), .second, .val (.long q4), .second, .val (.long q5), .second, .val (.int p6), .val (.int ex), .val (.int fc), .val (.int fw), .val (.long o1), .second, .val (.long l1), .second, .val (.long o2), .second, .val (.long l2), .second, .val (.ref b30), .val (.double (FP.i2d (p6 &&& (65535 : Int32)))), .second, .val (.ref b39), .val (.ref b55), .val (.ref b79), .val (.int (own_vf (nar .boolean ex) (0 : Int64) (0 : Int64))), .val (.int (0 : Int32)), .unset, .unset] [])) _
        refine XS.iconst X168.here hx rfl (hb hby at_269) ?_
        show Steps p.tables e below (T168.setTop (mkF m 270 #[.val (.int p1), .val (.long q2), .second, .val (.long q3), .second, .val (.long q4), .second, .val (.long q5), .second, .val (.int p6), .val (.int ex), .val (.int fc), .val (.int fw), .val (.long o1), .second, .val (.long l1), .second, .val (.long o2), .second, .val (.long l2), .second, .val (.ref b30), .val (.double (FP.i2d (p6 &&& (65535 : Int32)))), .second, .val (.ref b39), .val (.ref b55), .val (.ref b79), .val (.int (own_vf (nar .boolean ex) (0 : Int64) (0 : Int64))), .val (.int (0 : Int32)), .unset, .unset] [(.int (0 : Int32))])) _
        refine XS.istore X168.here hx rfl (hb hby at_270) rfl (l' := #[.val (.int p1), .val (.long q2), .second, .val (.long q3), .second, .val (.long q4), .second, .val (.long q5), .second, .val (.int p6), .val (.int ex), .val (.int fc), .val (.int fw), .val (.long o1), .second, .val (.long l1), .second, .val (.long o2), .second, .val (.long l2), .second, .val (.ref b30), .val (.double (FP.i2d (p6 &&& (65535 : Int32)))), .second, .val (.ref b39), .val (.ref b55), .val (.ref b79), .val (.int (own_vf (nar .boolean ex) (0 : Int64) (0 : Int64))), .val (.int (0 : Int32)), .val (.int (0 : Int32)), .unset]) rfl ?_
        show Steps p.tables e below (T168.setTop (mkF m 272 #[.val (.int p1), .val (.long q2), .second, .val (.long q3), .second, .val (.long q4), .second, .val (.long q5), .second, .val (.int p6), .val (.int ex), .val (.int fc), .val (.int fw), .val (.long o1), .second, .val (.long l1), .second, .val (.long o2), .second, .val (.long l2), .second, .val (.ref b30), .val (.double (FP.i2d (p6 &&& (65535 : Int32)))), .second, .val (.ref b39), .val (.ref b55), .val (.ref b79), .val (.int (own_vf (nar .boolean ex) (0 : Int64) (0 : Int64))), .val (.int (0 : Int32)), .val (.int (0 : Int32)), .unset] [])) _
        refine XS.iload X168.here hx rfl (hb hby at_272) rfl ?_
        exact kt
      have sg174 : ∀ target, Steps p.tables e below (T168.setTop (mkF m 292 #[.val (.int p1), .val (.long q2), .second, .val (.long q3), .second, .val (.long q4), .second, .val (.long q5), .second, .val (.int p6), .val (.int ex), .val (.int fc), .val (.int fw), .val (.long o1), .second, .val (.long l1), .second, .val (.long o2), .second, .val (.long l2), .second, .val (.ref b30), .val (.double (FP.i2d (p6 &&& (65535 : Int32)))), .second, .val (.ref b39), .val (.ref b55), .val (.ref b79), .val (.int (own_vf (nar .boolean ex) (0 : Int64) (0 : Int64))), .val (.int (0 : Int32)), .val (.int (0 : Int32)), .unset] [(.int (0 : Int32))])) target → Steps p.tables e below (T168.setTop (mkF m 274 #[.val (.int p1), .val (.long q2), .second, .val (.long q3), .second, .val (.long q4), .second, .val (.long q5), .second, .val (.int p6), .val (.int ex), .val (.int fc), .val (.int fw), .val (.long o1), .second, .val (.long l1), .second, .val (.long o2), .second, .val (.long l2), .second, .val (.ref b30), .val (.double (FP.i2d (p6 &&& (65535 : Int32)))), .second, .val (.ref b39), .val (.ref b55), .val (.ref b79), .val (.int (own_vf (nar .boolean ex) (0 : Int64) (0 : Int64))), .val (.int (0 : Int32)), .val (.int (0 : Int32)), .unset] [(.int ex)])) target := by
        intro target kt
        by_cases hj173_274 : ex = (0 : Int32)
        · show Steps p.tables e below (T168.setTop (mkF m 274 #[.val (.int p1), .val (.long q2), .second, .val (.long q3), .second, .val (.long q4), .second, .val (.long q5), .second, .val (.int p6), .val (.int ex), .val (.int fc), .val (.int fw), .val (.long o1), .second, .val (.long l1), .second, .val (.long o2), .second, .val (.long l2), .second, .val (.ref b30), .val (.double (FP.i2d (p6 &&& (65535 : Int32)))), .second, .val (.ref b39), .val (.ref b55), .val (.ref b79), .val (.int (own_vf (nar .boolean ex) (0 : Int64) (0 : Int64))), .val (.int (0 : Int32)), .val (.int (0 : Int32)), .unset] [(.int ex)])) _
          refine XS.ifYes X168.here hx rfl (pc0 := 274) (pc' := 291) rfl (hb hby at_274) rfl ((if0 _ _).trans (teq (hj173_274 : ex = (0 : Int32))).1) (by decide) (by decide) ?_
          show Steps p.tables e below (T168.setTop (mkF m 291 #[.val (.int p1), .val (.long q2), .second, .val (.long q3), .second, .val (.long q4), .second, .val (.long q5), .second, .val (.int p6), .val (.int ex), .val (.int fc), .val (.int fw), .val (.long o1), .second, .val (.long l1), .second, .val (.long o2), .second, .val (.long l2), .second, .val (.ref b30), .val (.double (FP.i2d (p6 &&& (65535 : Int32)))), .second, .val (.ref b39), .val (.ref b55), .val (.ref b79), .val (.int (own_vf (nar .boolean ex) (0 : Int64) (0 : Int64))), .val (.int (0 : Int32)), .val (.int (0 : Int32)), .unset] [])) _
          refine XS.iconst X168.here hx rfl (hb hby at_291) ?_
          exact kt
        · show Steps p.tables e below (T168.setTop (mkF m 274 #[.val (.int p1), .val (.long q2), .second, .val (.long q3), .second, .val (.long q4), .second, .val (.long q5), .second, .val (.int p6), .val (.int ex), .val (.int fc), .val (.int fw), .val (.long o1), .second, .val (.long l1), .second, .val (.long o2), .second, .val (.long l2), .second, .val (.ref b30), .val (.double (FP.i2d (p6 &&& (65535 : Int32)))), .second, .val (.ref b39), .val (.ref b55), .val (.ref b79), .val (.int (own_vf (nar .boolean ex) (0 : Int64) (0 : Int64))), .val (.int (0 : Int32)), .val (.int (0 : Int32)), .unset] [(.int ex)])) _
          refine XS.ifNo X168.here hx rfl (hb hby at_274) rfl ((if0 _ _).trans (feq (hj173_274 : ¬ (ex = (0 : Int32)))).1) ?_
          show Steps p.tables e below (T168.setTop (mkF m 277 #[.val (.int p1), .val (.long q2), .second, .val (.long q3), .second, .val (.long q4), .second, .val (.long q5), .second, .val (.int p6), .val (.int ex), .val (.int fc), .val (.int fw), .val (.long o1), .second, .val (.long l1), .second, .val (.long o2), .second, .val (.long l2), .second, .val (.ref b30), .val (.double (FP.i2d (p6 &&& (65535 : Int32)))), .second, .val (.ref b39), .val (.ref b55), .val (.ref b79), .val (.int (own_vf (nar .boolean ex) (0 : Int64) (0 : Int64))), .val (.int (0 : Int32)), .val (.int (0 : Int32)), .unset] [])) _
          refine XS.iload X168.here hx rfl (hb hby at_277) rfl ?_
          show Steps p.tables e below (T168.setTop (mkF m 279 #[.val (.int p1), .val (.long q2), .second, .val (.long q3), .second, .val (.long q4), .second, .val (.long q5), .second, .val (.int p6), .val (.int ex), .val (.int fc), .val (.int fw), .val (.long o1), .second, .val (.long l1), .second, .val (.long o2), .second, .val (.long l2), .second, .val (.ref b30), .val (.double (FP.i2d (p6 &&& (65535 : Int32)))), .second, .val (.ref b39), .val (.ref b55), .val (.ref b79), .val (.int (own_vf (nar .boolean ex) (0 : Int64) (0 : Int64))), .val (.int (0 : Int32)), .val (.int (0 : Int32)), .unset] [(.int (0 : Int32))])) _
          refine XS.ifNo X168.here hx rfl (hb hby at_279) rfl ((if0 _ _).trans (teq (by decide : (0 : Int32) = (0 : Int32))).2) ?_
          show Steps p.tables e below (T168.setTop (mkF m 282 #[.val (.int p1), .val (.long q2), .second, .val (.long q3), .second, .val (.long q4), .second, .val (.long q5), .second, .val (.int p6), .val (.int ex), .val (.int fc), .val (.int fw), .val (.long o1), .second, .val (.long l1), .second, .val (.long o2), .second, .val (.long l2), .second, .val (.ref b30), .val (.double (FP.i2d (p6 &&& (65535 : Int32)))), .second, .val (.ref b39), .val (.ref b55), .val (.ref b79), .val (.int (own_vf (nar .boolean ex) (0 : Int64) (0 : Int64))), .val (.int (0 : Int32)), .val (.int (0 : Int32)), .unset] [])) _
          refine XS.iload X168.here hx rfl (hb hby at_282) rfl ?_
          show Steps p.tables e below (T168.setTop (mkF m 284 #[.val (.int p1), .val (.long q2), .second, .val (.long q3), .second, .val (.long q4), .second, .val (.long q5), .second, .val (.int p6), .val (.int ex), .val (.int fc), .val (.int fw), .val (.long o1), .second, .val (.long l1), .second, .val (.long o2), .second, .val (.long l2), .second, .val (.ref b30), .val (.double (FP.i2d (p6 &&& (65535 : Int32)))), .second, .val (.ref b39), .val (.ref b55), .val (.ref b79), .val (.int (own_vf (nar .boolean ex) (0 : Int64) (0 : Int64))), .val (.int (0 : Int32)), .val (.int (0 : Int32)), .unset] [(.int (0 : Int32))])) _
          refine XS.ifYes X168.here hx rfl (pc0 := 284) (pc' := 291) rfl (hb hby at_284) rfl ((if0 _ _).trans (teq (by decide : (0 : Int32) = (0 : Int32))).1) (by decide) (by decide) ?_
          show Steps p.tables e below (T168.setTop (mkF m 291 #[.val (.int p1), .val (.long q2), .second, .val (.long q3), .second, .val (.long q4), .second, .val (.long q5), .second, .val (.int p6), .val (.int ex), .val (.int fc), .val (.int fw), .val (.long o1), .second, .val (.long l1), .second, .val (.long o2), .second, .val (.long l2), .second, .val (.ref b30), .val (.double (FP.i2d (p6 &&& (65535 : Int32)))), .second, .val (.ref b39), .val (.ref b55), .val (.ref b79), .val (.int (own_vf (nar .boolean ex) (0 : Int64) (0 : Int64))), .val (.int (0 : Int32)), .val (.int (0 : Int32)), .unset] [])) _
          refine XS.iconst X168.here hx rfl (hb hby at_291) ?_
          exact kt
      have sg175 : ∀ target, Steps p.tables e below (T168.setTop (mkF m 301 #[.val (.int p1), .val (.long q2), .second, .val (.long q3), .second, .val (.long q4), .second, .val (.long q5), .second, .val (.int p6), .val (.int ex), .val (.int fc), .val (.int fw), .val (.long o1), .second, .val (.long l1), .second, .val (.long o2), .second, .val (.long l2), .second, .val (.ref b30), .val (.double (FP.i2d (p6 &&& (65535 : Int32)))), .second, .val (.ref b39), .val (.ref b55), .val (.ref b79), .val (.int (own_vf (nar .boolean ex) (0 : Int64) (0 : Int64))), .val (.int (0 : Int32)), .val (.int (0 : Int32)), .val (.int (0 : Int32))] [(.ref b79)])) target → Steps p.tables e below (T168.setTop (mkF m 292 #[.val (.int p1), .val (.long q2), .second, .val (.long q3), .second, .val (.long q4), .second, .val (.long q5), .second, .val (.int p6), .val (.int ex), .val (.int fc), .val (.int fw), .val (.long o1), .second, .val (.long l1), .second, .val (.long o2), .second, .val (.long l2), .second, .val (.ref b30), .val (.double (FP.i2d (p6 &&& (65535 : Int32)))), .second, .val (.ref b39), .val (.ref b55), .val (.ref b79), .val (.int (own_vf (nar .boolean ex) (0 : Int64) (0 : Int64))), .val (.int (0 : Int32)), .val (.int (0 : Int32)), .unset] [(.int (0 : Int32))])) target := by
        intro target kt
        show Steps p.tables e below (T168.setTop (mkF m 292 #[.val (.int p1), .val (.long q2), .second, .val (.long q3), .second, .val (.long q4), .second, .val (.long q5), .second, .val (.int p6), .val (.int ex), .val (.int fc), .val (.int fw), .val (.long o1), .second, .val (.long l1), .second, .val (.long o2), .second, .val (.long l2), .second, .val (.ref b30), .val (.double (FP.i2d (p6 &&& (65535 : Int32)))), .second, .val (.ref b39), .val (.ref b55), .val (.ref b79), .val (.int (own_vf (nar .boolean ex) (0 : Int64) (0 : Int64))), .val (.int (0 : Int32)), .val (.int (0 : Int32)), .unset] [(.int (0 : Int32))])) _
        refine XS.istore X168.here hx rfl (hb hby at_292) rfl (l' := #[.val (.int p1), .val (.long q2), .second, .val (.long q3), .second, .val (.long q4), .second, .val (.long q5), .second, .val (.int p6), .val (.int ex), .val (.int fc), .val (.int fw), .val (.long o1), .second, .val (.long l1), .second, .val (.long o2), .second, .val (.long l2), .second, .val (.ref b30), .val (.double (FP.i2d (p6 &&& (65535 : Int32)))), .second, .val (.ref b39), .val (.ref b55), .val (.ref b79), .val (.int (own_vf (nar .boolean ex) (0 : Int64) (0 : Int64))), .val (.int (0 : Int32)), .val (.int (0 : Int32)), .val (.int (0 : Int32))]) rfl ?_
        show Steps p.tables e below (T168.setTop (mkF m 294 #[.val (.int p1), .val (.long q2), .second, .val (.long q3), .second, .val (.long q4), .second, .val (.long q5), .second, .val (.int p6), .val (.int ex), .val (.int fc), .val (.int fw), .val (.long o1), .second, .val (.long l1), .second, .val (.long o2), .second, .val (.long l2), .second, .val (.ref b30), .val (.double (FP.i2d (p6 &&& (65535 : Int32)))), .second, .val (.ref b39), .val (.ref b55), .val (.ref b79), .val (.int (own_vf (nar .boolean ex) (0 : Int64) (0 : Int64))), .val (.int (0 : Int32)), .val (.int (0 : Int32)), .val (.int (0 : Int32))] [])) _
        refine XS.iload X168.here hx rfl (hb hby at_294) rfl ?_
        show Steps p.tables e below (T168.setTop (mkF m 296 #[.val (.int p1), .val (.long q2), .second, .val (.long q3), .second, .val (.long q4), .second, .val (.long q5), .second, .val (.int p6), .val (.int ex), .val (.int fc), .val (.int fw), .val (.long o1), .second, .val (.long l1), .second, .val (.long o2), .second, .val (.long l2), .second, .val (.ref b30), .val (.double (FP.i2d (p6 &&& (65535 : Int32)))), .second, .val (.ref b39), .val (.ref b55), .val (.ref b79), .val (.int (own_vf (nar .boolean ex) (0 : Int64) (0 : Int64))), .val (.int (0 : Int32)), .val (.int (0 : Int32)), .val (.int (0 : Int32))] [(.int (own_vf (nar .boolean ex) (0 : Int64) (0 : Int64)))])) _
        refine XS.ifNo X168.here hx rfl (hb hby at_296) rfl ((if0 _ _).trans (teq (own_fresh _ : (own_vf (nar .boolean ex) (0 : Int64) (0 : Int64)) = (0 : Int32))).2) ?_
        show Steps p.tables e below (T168.setTop (mkF m 299 #[.val (.int p1), .val (.long q2), .second, .val (.long q3), .second, .val (.long q4), .second, .val (.long q5), .second, .val (.int p6), .val (.int ex), .val (.int fc), .val (.int fw), .val (.long o1), .second, .val (.long l1), .second, .val (.long o2), .second, .val (.long l2), .second, .val (.ref b30), .val (.double (FP.i2d (p6 &&& (65535 : Int32)))), .second, .val (.ref b39), .val (.ref b55), .val (.ref b79), .val (.int (own_vf (nar .boolean ex) (0 : Int64) (0 : Int64))), .val (.int (0 : Int32)), .val (.int (0 : Int32)), .val (.int (0 : Int32))] [])) _
        refine XS.aload X168.here hx rfl (hb hby at_299) rfl rfl ?_
        exact kt
      obtain ⟨cq176, kq176, q176a, q176b, q176c⟩ := isOf hZ c168_0 f157
      obtain ⟨_, _, ⟨T176, L176, k176, n176⟩, -, X176, ⟨Lc176, hQ176, l176, y176, z176⟩, st176⟩ := X168.virtualBack hx (y := (⟨"com/example/brelok/brelok/perf/Tally", "failedToExclude", "()Z"⟩ : MethodName)) (z := (⟨"com/example/brelok/brelok/perf/Tally", "failedToExclude", "()Z"⟩ : MethodName)) hown (mvT hZ (hw _ (List.mem_of_getElem? (i := 89) rfl))) (mvT hZ (hw _ (List.mem_of_getElem? (i := 90) rfl))) (notFace_of_selects (args := #[]) (mvT hZ (hw _ (List.mem_of_getElem? (i := 92) rfl)))) (mvT hZ (hw _ (List.mem_of_getElem? (i := 92) rfl))) (mvT hZ (hw _ (List.mem_of_getElem? (i := 91) rfl))) (by decide) (backOf (W := 0) (rm13 l Z a0 hw [] b79 (nar .boolean ex) (0 : Int64) (0 : Int64) T144.heap n0 Zs144 f159 f161 f162) hZ (hw _ (List.mem_of_getElem? (i := 93) rfl)) (hw _ (List.mem_of_getElem? (i := 25) rfl)) (by decide) (by decide)) q176a q176c (g := (mkF m 301 #[.val (.int p1), .val (.long q2), .second, .val (.long q3), .second, .val (.long q4), .second, .val (.long q5), .second, .val (.int p6), .val (.int ex), .val (.int fc), .val (.int fw), .val (.long o1), .second, .val (.long l1), .second, .val (.long o2), .second, .val (.long l2), .second, .val (.ref b30), .val (.double (FP.i2d (p6 &&& (65535 : Int32)))), .second, .val (.ref b39), .val (.ref b55), .val (.ref b79), .val (.int (own_vf (nar .boolean ex) (0 : Int64) (0 : Int64))), .val (.int (0 : Int32)), .val (.int (0 : Int32)), .val (.int (0 : Int32))] [(.ref b79)])) rfl (by rw [hml]; rfl) (Steps.refl _) (argsL := []) (rest := []) (lenOf pd_4 rfl) rfl (by show 2 * 0 + _ ≤ _; exact Nat.le_of_eq rfl) (hb hby at_301) (fun _ _ => ⟨rfl, c168_0, (by decide : 8 + 0 ≤ _), (by decide : 25 + 0 ≤ _)⟩)
      dsimp only [Pt.U, Pt.locs, Pt.cells, Pt.slots] at X176 l176 y176 z176 st176 hQ176
      subst l176 y176 z176
      obtain ⟨rfl, N176q, c176_0⟩ := hQ176
      have N176 := Fr.app N168 N176q
      have sg177 : ∀ target, Steps p.tables e below (T176.setTop (mkF m 314 #[.val (.int p1), .val (.long q2), .second, .val (.long q3), .second, .val (.long q4), .second, .val (.long q5), .second, .val (.int p6), .val (.int ex), .val (.int fc), .val (.int fw), .val (.long o1), .second, .val (.long l1), .second, .val (.long o2), .second, .val (.long l2), .second, .val (.ref b30), .val (.double (FP.i2d (p6 &&& (65535 : Int32)))), .second, .val (.ref b39), .val (.ref b55), .val (.ref b79), .val (.int (own_vf (nar .boolean ex) (0 : Int64) (0 : Int64))), .val (.int (0 : Int32)), .val (.int (0 : Int32)), .val (.int (0 : Int32))] [(.int (1 : Int32))])) target → Steps p.tables e below (T176.setTop (mkF m 304 #[.val (.int p1), .val (.long q2), .second, .val (.long q3), .second, .val (.long q4), .second, .val (.long q5), .second, .val (.int p6), .val (.int ex), .val (.int fc), .val (.int fw), .val (.long o1), .second, .val (.long l1), .second, .val (.long o2), .second, .val (.long l2), .second, .val (.ref b30), .val (.double (FP.i2d (p6 &&& (65535 : Int32)))), .second, .val (.ref b39), .val (.ref b55), .val (.ref b79), .val (.int (own_vf (nar .boolean ex) (0 : Int64) (0 : Int64))), .val (.int (0 : Int32)), .val (.int (0 : Int32)), .val (.int (0 : Int32))] [(.int (own_vf (nar .boolean ex) (0 : Int64) (0 : Int64)))])) target := by
        intro target kt
        show Steps p.tables e below (T176.setTop (mkF m 304 #[.val (.int p1), .val (.long q2), .second, .val (.long q3), .second, .val (.long q4), .second, .val (.long q5), .second, .val (.int p6), .val (.int ex), .val (.int fc), .val (.int fw), .val (.long o1), .second, .val (.long l1), .second, .val (.long o2), .second, .val (.long l2), .second, .val (.ref b30), .val (.double (FP.i2d (p6 &&& (65535 : Int32)))), .second, .val (.ref b39), .val (.ref b55), .val (.ref b79), .val (.int (own_vf (nar .boolean ex) (0 : Int64) (0 : Int64))), .val (.int (0 : Int32)), .val (.int (0 : Int32)), .val (.int (0 : Int32))] [(.int (own_vf (nar .boolean ex) (0 : Int64) (0 : Int64)))])) _
        refine XS.iload X176.here hx rfl (hb hby at_304) rfl ?_
        show Steps p.tables e below (T176.setTop (mkF m 306 #[.val (.int p1), .val (.long q2), .second, .val (.long q3), .second, .val (.long q4), .second, .val (.long q5), .second, .val (.int p6), .val (.int ex), .val (.int fc), .val (.int fw), .val (.long o1), .second, .val (.long l1), .second, .val (.long o2), .second, .val (.long l2), .second, .val (.ref b30), .val (.double (FP.i2d (p6 &&& (65535 : Int32)))), .second, .val (.ref b39), .val (.ref b55), .val (.ref b79), .val (.int (own_vf (nar .boolean ex) (0 : Int64) (0 : Int64))), .val (.int (0 : Int32)), .val (.int (0 : Int32)), .val (.int (0 : Int32))] [(.int (0 : Int32)), (.int (own_vf (nar .boolean ex) (0 : Int64) (0 : Int64)))])) _
        refine XS.icmpNo X176.here hx rfl (hb hby at_306) rfl (teq (by exact own_fresh _ : (own_vf (nar .boolean ex) (0 : Int64) (0 : Int64)) = (0 : Int32))).2 ?_
        show Steps p.tables e below (T176.setTop (mkF m 309 #[.val (.int p1), .val (.long q2), .second, .val (.long q3), .second, .val (.long q4), .second, .val (.long q5), .second, .val (.int p6), .val (.int ex), .val (.int fc), .val (.int fw), .val (.long o1), .second, .val (.long l1), .second, .val (.long o2), .second, .val (.long l2), .second, .val (.ref b30), .val (.double (FP.i2d (p6 &&& (65535 : Int32)))), .second, .val (.ref b39), .val (.ref b55), .val (.ref b79), .val (.int (own_vf (nar .boolean ex) (0 : Int64) (0 : Int64))), .val (.int (0 : Int32)), .val (.int (0 : Int32)), .val (.int (0 : Int32))] [])) _
        refine XS.iconst X176.here hx rfl (hb hby at_309) ?_
        show Steps p.tables e below (T176.setTop (mkF m 310 #[.val (.int p1), .val (.long q2), .second, .val (.long q3), .second, .val (.long q4), .second, .val (.long q5), .second, .val (.int p6), .val (.int ex), .val (.int fc), .val (.int fw), .val (.long o1), .second, .val (.long l1), .second, .val (.long o2), .second, .val (.long l2), .second, .val (.ref b30), .val (.double (FP.i2d (p6 &&& (65535 : Int32)))), .second, .val (.ref b39), .val (.ref b55), .val (.ref b79), .val (.int (own_vf (nar .boolean ex) (0 : Int64) (0 : Int64))), .val (.int (0 : Int32)), .val (.int (0 : Int32)), .val (.int (0 : Int32))] [(.int (1 : Int32))])) _
        refine XS.goto X176.here hx rfl (pc0 := 310) (pc' := 314) rfl (hb hby at_310) (by decide) (by decide) ?_
        exact kt
      obtain ⟨fs, hr, hrun, hended, hW, hsame⟩ := X176.leave (v := some (.int (1 : Int32))) (fun h => by rw [Bd.returns] at h; cases h)
      refine ⟨_, _, pre0 _ ?_, hrun, hended, _, _, rfl, ?_, ⟨_, rfl⟩, hW, hsame.mono (by decide) (by decide)⟩
      · show Steps p.tables e below (s₁.setTop (mkF m 0 #[.val (.int p1), .val (.long q2), .second, .val (.long q3), .second, .val (.long q4), .second, .val (.long q5), .second, .val (.int p6), .unset, .unset, .unset, .unset, .unset, .unset, .unset, .unset, .unset, .unset, .unset, .unset, .unset, .unset, .unset, .unset, .unset, .unset, .unset, .unset, .unset] [])) _
        refine sg1 _ ?_
        refine sg4 _ ?_
        refine sg5 _ ?_
        refine sg8 _ ?_
        refine sg9 _ ?_
        refine sg12 _ ?_
        refine sg13 _ ?_
        refine sg16 _ ?_
        refine sg17 _ ?_
        refine sg20 _ ?_
        refine sg21 _ ?_
        refine sg24 _ ?_
        refine sg25 _ ?_
        refine sg28 _ ?_
        refine sg29 _ ?_
        refine st30 _ ?_
        refine sg33 _ ?_
        refine st35 _ ?_
        refine sg38 _ ?_
        refine st39 _ ?_
        refine sg46 _ ?_
        refine st47.trans ?_
        refine sg54 _ ?_
        refine st55 _ ?_
        refine sg66 _ ?_
        refine st67.trans ?_
        refine sg78 _ ?_
        refine st79 _ ?_
        refine sg98 _ ?_
        refine st99 _ ?_
        refine sg121 _ ?_
        refine st122.trans ?_
        refine sg143 _ ?_
        refine st144.trans ?_
        refine sg167 _ ?_
        refine st168.trans ?_
        refine sg169 _ ?_
        refine sg170 _ ?_
        refine sg171 _ ?_
        refine sg174 _ ?_
        refine sg175 _ ?_
        refine st176.trans ?_
        refine sg177 _ ?_
        show Steps p.tables e below (T176.setTop (mkF m 314 #[.val (.int p1), .val (.long q2), .second, .val (.long q3), .second, .val (.long q4), .second, .val (.long q5), .second, .val (.int p6), .val (.int ex), .val (.int fc), .val (.int fw), .val (.long o1), .second, .val (.long l1), .second, .val (.long o2), .second, .val (.long l2), .second, .val (.ref b30), .val (.double (FP.i2d (p6 &&& (65535 : Int32)))), .second, .val (.ref b39), .val (.ref b55), .val (.ref b79), .val (.int (own_vf (nar .boolean ex) (0 : Int64) (0 : Int64))), .val (.int (0 : Int32)), .val (.int (0 : Int32)), .val (.int (0 : Int32))] [(.int (1 : Int32))])) _
        exact retN X176 hx (t := .boolean) Bd.returns (by simp) (hb hby at_314) hr
      · show Q_rm0 Z p1 q2 q3 q4 q5 p6 d0 kd G1 h0 n0 _ T176.heap _
        rw [c176_0]
        exact ⟨rfl, N176⟩
    · have sg178 : ∀ target, Steps p.tables e below (T168.setTop (mkF m 217 #[.val (.int p1), .val (.long q2), .second, .val (.long q3), .second, .val (.long q4), .second, .val (.long q5), .second, .val (.int p6), .val (.int ex), .val (.int fc), .val (.int fw), .val (.long o1), .second, .val (.long l1), .second, .val (.long o2), .second, .val (.long l2), .second, .val (.ref b30), .val (.double (FP.i2d (p6 &&& (65535 : Int32)))), .second, .val (.ref b39), .val (.ref b55), .val (.ref b79), .val (.int (own_vf (nar .boolean ex) (0 : Int64) (0 : Int64))), .unset, .unset, .unset] [(.ref b55), (.ref b79)])) target → Steps p.tables e below (T168.setTop (mkF m 210 #[.val (.int p1), .val (.long q2), .second, .val (.long q3), .second, .val (.long q4), .second, .val (.long q5), .second, .val (.int p6), .val (.int ex), .val (.int fc), .val (.int fw), .val (.long o1), .second, .val (.long l1), .second, .val (.long o2), .second, .val (.long l2), .second, .val (.ref b30), .val (.double (FP.i2d (p6 &&& (65535 : Int32)))), .second, .val (.ref b39), .val (.ref b55), .val (.ref b79), .val (.int (own_vf (nar .boolean ex) (0 : Int64) (0 : Int64))), .unset, .unset, .unset] [(.int fw)])) target := by
        intro target kt
        show Steps p.tables e below (T168.setTop (mkF m 210 #[.val (.int p1), .val (.long q2), .second, .val (.long q3), .second, .val (.long q4), .second, .val (.long q5), .second, .val (.int p6), .val (.int ex), .val (.int fc), .val (.int fw), .val (.long o1), .second, .val (.long l1), .second, .val (.long o2), .second, .val (.long l2), .second, .val (.ref b30), .val (.double (FP.i2d (p6 &&& (65535 : Int32)))), .second, .val (.ref b39), .val (.ref b55), .val (.ref b79), .val (.int (own_vf (nar .boolean ex) (0 : Int64) (0 : Int64))), .unset, .unset, .unset] [(.int fw)])) _
        refine XS.ifNo X168.here hx rfl (hb hby at_210) rfl ((if0 _ _).trans (feq (hwv : ¬ (fw = (0 : Int32)))).1) ?_
        show Steps p.tables e below (T168.setTop (mkF m 213 #[.val (.int p1), .val (.long q2), .second, .val (.long q3), .second, .val (.long q4), .second, .val (.long q5), .second, .val (.int p6), .val (.int ex), .val (.int fc), .val (.int fw), .val (.long o1), .second, .val (.long l1), .second, .val (.long o2), .second, .val (.long l2), .second, .val (.ref b30), .val (.double (FP.i2d (p6 &&& (65535 : Int32)))), .second, .val (.ref b39), .val (.ref b55), .val (.ref b79), .val (.int (own_vf (nar .boolean ex) (0 : Int64) (0 : Int64))), .unset, .unset, .unset] [])) _
        refine XS.aload X168.here hx rfl (hb hby at_213) rfl rfl ?_
        show Steps p.tables e below (T168.setTop (mkF m 215 #[.val (.int p1), .val (.long q2), .second, .val (.long q3), .second, .val (.long q4), .second, .val (.long q5), .second, .val (.int p6), .val (.int ex), .val (.int fc), .val (.int fw), .val (.long o1), .second, .val (.long l1), .second, .val (.long o2), .second, .val (.long l2), .second, .val (.ref b30), .val (.double (FP.i2d (p6 &&& (65535 : Int32)))), .second, .val (.ref b39), .val (.ref b55), .val (.ref b79), .val (.int (own_vf (nar .boolean ex) (0 : Int64) (0 : Int64))), .unset, .unset, .unset] [(.ref b79)])) _
        refine XS.aload X168.here hx rfl (hb hby at_215) rfl rfl ?_
        exact kt
      obtain ⟨cq179, kq179, q179a, q179b, q179c⟩ := isOf hZ c168_0 f157
      obtain ⟨_, _, ⟨T179, L179, k179, n179⟩, -, X179, ⟨Lc179, hQ179, l179, y179, z179⟩, st179⟩ := X168.virtualBack hx (y := (⟨"com/example/brelok/brelok/perf/Tally", "setWaiting", "(Lcom/example/brelok/brelok/perf/Timing$Measure;)V"⟩ : MethodName)) (z := (⟨"com/example/brelok/brelok/perf/Tally", "setWaiting", "(Lcom/example/brelok/brelok/perf/Timing$Measure;)V"⟩ : MethodName)) hown (mvT hZ (hw _ (List.mem_of_getElem? (i := 176) rfl))) (mvT hZ (hw _ (List.mem_of_getElem? (i := 177) rfl))) (notFace_of_selects (args := #[]) (mvT hZ (hw _ (List.mem_of_getElem? (i := 179) rfl)))) (mvT hZ (hw _ (List.mem_of_getElem? (i := 179) rfl))) (mvT hZ (hw _ (List.mem_of_getElem? (i := 178) rfl))) (by decide) (backOf (W := 0) (rm27 l Z a0 hw [] b79 b55 (nar .boolean ex) (0 : UInt64) (0 : Int64) (0 : Int64) (FP.i2d (p6 &&& (65535 : Int32))) o2 l2 T144.heap n0 Zs144 f157 f159 f160 f161 f162 g_b79 f151 f152 f153 f154 ne_b55_b79) hZ (hw _ (List.mem_of_getElem? (i := 180) rfl)) (hw _ (List.mem_of_getElem? (i := 25) rfl)) (by decide) (by decide)) q179a q179c (g := (mkF m 217 #[.val (.int p1), .val (.long q2), .second, .val (.long q3), .second, .val (.long q4), .second, .val (.long q5), .second, .val (.int p6), .val (.int ex), .val (.int fc), .val (.int fw), .val (.long o1), .second, .val (.long l1), .second, .val (.long o2), .second, .val (.long l2), .second, .val (.ref b30), .val (.double (FP.i2d (p6 &&& (65535 : Int32)))), .second, .val (.ref b39), .val (.ref b55), .val (.ref b79), .val (.int (own_vf (nar .boolean ex) (0 : Int64) (0 : Int64))), .unset, .unset, .unset] [(.ref b55), (.ref b79)])) rfl (by rw [hml]; rfl) (Steps.refl _) (argsL := [(.ref b55)]) (rest := []) (lenOf pd_11 rfl) rfl (by show 2 * 0 + _ ≤ _; exact Nat.le_of_eq rfl) (hb hby at_217) (fun _ _ => ⟨rfl, c168_0, (by decide : 8 + 0 ≤ _), (by decide : 25 + 0 ≤ _)⟩)
      dsimp only [Pt.U, Pt.locs, Pt.cells, Pt.slots] at X179 l179 y179 z179 st179 hQ179
      subst l179 y179 z179
      obtain ⟨rfl, N179q, c179_0, c179_1, c179_2, c179_3, c179_4, c179_5⟩ := hQ179
      have N179 := Fr.app N168 N179q
      have Zs179 : n0 ≤ T179.heap.size := Nat.le_trans Zs144 c179_0.1
      have f180 : Old Z n0 T179.heap := f145.keep c179_0 (allS g_b79 all0)
      have f181 : Arv Z T179.heap b30 k30 .char (1 : Int32) [(.int (nar .char (own_ch p1)))] (.int (0 : Int32)) := f146.keep c179_0 (ninS ne_b30_b79 nin0)
      have f182 : Exa Z T179.heap b39 "com/example/brelok/brelok/perf/Timing$Measure" := f147.keep c179_0
      have f183 : Fld Z T179.heap b39 "com/example/brelok/brelok/perf/Timing$Measure" "figure" "D" (.double (FP.i2d (p6 &&& (65535 : Int32)))) := f148.keep c179_0 (ninS ne_b39_b79 nin0)
      have f184 : Fld Z T179.heap b39 "com/example/brelok/brelok/perf/Timing$Measure" "overlaps" "J" (.long o1) := f149.keep c179_0 (ninS ne_b39_b79 nin0)
      have f185 : Fld Z T179.heap b39 "com/example/brelok/brelok/perf/Timing$Measure" "lostUpdates" "J" (.long l1) := f150.keep c179_0 (ninS ne_b39_b79 nin0)
      have f186 : Exa Z T179.heap b55 "com/example/brelok/brelok/perf/Timing$Measure" := f151.keep c179_0
      have f187 : Fld Z T179.heap b55 "com/example/brelok/brelok/perf/Timing$Measure" "figure" "D" (.double (FP.i2d (p6 &&& (65535 : Int32)))) := f152.keep c179_0 (ninS ne_b55_b79 nin0)
      have f188 : Fld Z T179.heap b55 "com/example/brelok/brelok/perf/Timing$Measure" "overlaps" "J" (.long o2) := f153.keep c179_0 (ninS ne_b55_b79 nin0)
      have f189 : Fld Z T179.heap b55 "com/example/brelok/brelok/perf/Timing$Measure" "lostUpdates" "J" (.long l2) := f154.keep c179_0 (ninS ne_b55_b79 nin0)
      have f190 : Exa Z T179.heap b99 "java/lang/String" := f155.keep c179_0
      have f191 : Fld Z T179.heap b99 "java/lang/String" "coder" "B" (.int (0 : Int32)) := f156.keep c179_0 (ninS (Ne.symm ne_b79_b99) nin0)
      have f192 : Exa Z T179.heap lc_144 "java/util/ArrayList" := f163.keep c179_0
      have f193 : Fld Z T179.heap lc_144 "java/util/AbstractList" "modCount" "I" (.int (0 : Int32)) := f164.keep c179_0 (ninS (Ne.symm c144_2) nin0)
      have f194 : Fld Z T179.heap lc_144 "java/util/ArrayList" "elementData" "[Ljava/lang/Object;" (.ref d0) := f165.keep c179_0 (ninS (Ne.symm c144_2) nin0)
      have f195 : Fld Z T179.heap lc_144 "java/util/ArrayList" "size" "I" (.int (0 : Int32)) := f166.keep c179_0 (ninS (Ne.symm c144_2) nin0)
      have f196 : Exa Z T179.heap b79 "com/example/brelok/brelok/perf/Tally" := c179_1
      have f197 : Fld Z T179.heap b79 "com/example/brelok/brelok/perf/Tally" "excludes" "Z" (.int (nar .boolean ex)) := c179_2
      have f198 : Fld Z T179.heap b79 "com/example/brelok/brelok/perf/Tally" "waiting" "D" (.double (FP.i2d (p6 &&& (65535 : Int32)))) := c179_3
      have f199 : Fld Z T179.heap b79 "com/example/brelok/brelok/perf/Tally" "overlaps" "J" (.long ((0 : Int64) + o2)) := c179_4
      have f200 : Fld Z T179.heap b79 "com/example/brelok/brelok/perf/Tally" "lostUpdates" "J" (.long ((0 : Int64) + l2)) := c179_5
      have sg201 : ∀ target, Steps p.tables e below (T179.setTop (mkF m 255 #[.val (.int p1), .val (.long q2), .second, .val (.long q3), .second, .val (.long q4), .second, .val (.long q5), .second, .val (.int p6), .val (.int ex), .val (.int fc), .val (.int fw), .val (.long o1), .second, .val (.long l1), .second, .val (.long o2), .second, .val (.long l2), .second, .val (.ref b30), .val (.double (FP.i2d (p6 &&& (65535 : Int32)))), .second, .val (.ref b39), .val (.ref b55), .val (.ref b79), .val (.int (own_vf (nar .boolean ex) (0 : Int64) (0 : Int64))), .val (.int (0 : Int32)), .unset, .unset] [(.int (lcmpW o2 (0 : Int64)))])) target → Steps p.tables e below (T179.setTop (mkF m 220 #[.val (.int p1), .val (.long q2), .second, .val (.long q3), .second, .val (.long q4), .second, .val (.long q5), .second, .val (.int p6), .val (.int ex), .val (.int fc), .val (.int fw), .val (.long o1), .second, .val (.long l1), .second, .val (.long o2), .second, .val (.long l2), .second, .val (.ref b30), .val (.double (FP.i2d (p6 &&& (65535 : Int32)))), .second, .val (.ref b39), .val (.ref b55), .val (.ref b79), .val (.int (own_vf (nar .boolean ex) (0 : Int64) (0 : Int64))), .unset, .unset, .unset] [])) target := by
        intro target kt
        show Steps p.tables e below (T179.setTop (mkF m 220 #[.val (.int p1), .val (.long q2), .second, .val (.long q3), .second, .val (.long q4), .second, .val (.long q5), .second, .val (.int p6), .val (.int ex), .val (.int fc), .val (.int fw), .val (.long o1), .second, .val (.long l1), .second, .val (.long o2), .second, .val (.long l2), .second, .val (.ref b30), .val (.double (FP.i2d (p6 &&& (65535 : Int32)))), .second, .val (.ref b39), .val (.ref b55), .val (.ref b79), .val (.int (own_vf (nar .boolean ex) (0 : Int64) (0 : Int64))), .unset, .unset, .unset] [])) _
        refine XS.iload X179.here hx rfl (hb hby at_220) rfl ?_
        show Steps p.tables e below (T179.setTop (mkF m 222 #[.val (.int p1), .val (.long q2), .second, .val (.long q3), .second, .val (.long q4), .second, .val (.long q5), .second, .val (.int p6), .val (.int ex), .val (.int fc), .val (.int fw), .val (.long o1), .second, .val (.long l1), .second, .val (.long o2), .second, .val (.long l2), .second, .val (.ref b30), .val (.double (FP.i2d (p6 &&& (65535 : Int32)))), .second, .val (.ref b39), .val (.ref b55), .val (.ref b79), .val (.int (own_vf (nar .boolean ex) (0 : Int64) (0 : Int64))), .unset, .unset, .unset] [(.int fc)])) _
        refine XS.ifYes X179.here hx rfl (pc0 := 222) (pc' := 243) rfl (hb hby at_222) rfl ((if0 _ _).trans (teq (hc : fc = (0 : Int32))).1) (by decide) (by decide) ?_
        show Steps p.tables e below (T179.setTop (mkF m 243 #[.val (.int p1), .val (.long q2), .second, .val (.long q3), .second, .val (.long q4), .second, .val (.long q5), .second, .val (.int p6), .val (.int ex), .val (.int fc), .val (.int fw), .val (.long o1), .second, .val (.long l1), .second, .val (.long o2), .second, .val (.long l2), .second, .val (.ref b30), .val (.double (FP.i2d (p6 &&& (65535 : Int32)))), .second, .val (.ref b39), .val (.ref b55), .val (.ref b79), .val (.int (own_vf (nar .boolean ex) (0 : Int64) (0 : Int64))), .unset, .unset, .unset] [])) _
        refine XS.iconst X179.here hx rfl (hb hby at_243) ?_
        show Steps p.tables e below (T179.setTop (mkF m 244 #[.val (.int p1), .val (.long q2), .second, .val (.long q3), .second, .val (.long q4), .second, .val (.long q5), .second, .val (.int p6), .val (.int ex), .val (.int fc), .val (.int fw), .val (.long o1), .second, .val (.long l1), .second, .val (.long o2), .second, .val (.long l2), .second, .val (.ref b30), .val (.double (FP.i2d (p6 &&& (65535 : Int32)))), .second, .val (.ref b39), .val (.ref b55), .val (.ref b79), .val (.int (own_vf (nar .boolean ex) (0 : Int64) (0 : Int64))), .unset, .unset, .unset] [(.int (0 : Int32))])) _
        refine XS.istore X179.here hx rfl (hb hby at_244) rfl (l' := #[.val (.int p1), .val (.long q2), .second, .val (.long q3), .second, .val (.long q4), .second, .val (.long q5), .second, .val (.int p6), .val (.int ex), .val (.int fc), .val (.int fw), .val (.long o1), .second, .val (.long l1), .second, .val (.long o2), .second, .val (.long l2), .second, .val (.ref b30), .val (.double (FP.i2d (p6 &&& (65535 : Int32)))), .second, .val (.ref b39), .val (.ref b55), .val (.ref b79), .val (.int (own_vf (nar .boolean ex) (0 : Int64) (0 : Int64))), .val (.int (0 : Int32)), .unset, .unset]) rfl ?_
        show Steps p.tables e below (T179.setTop (mkF m 246 #[.val (.int p1), .val (.long q2), .second, .val (.long q3), .second, .val (.long q4), .second, .val (.long q5), .second, .val (.int p6), .val (.int ex), .val (.int fc), .val (.int fw), .val (.long o1), .second, .val (.long l1), .second, .val (.long o2), .second, .val (.long l2), .second, .val (.ref b30), .val (.double (FP.i2d (p6 &&& (65535 : Int32)))), .second, .val (.ref b39), .val (.ref b55), .val (.ref b79), .val (.int (own_vf (nar .boolean ex) (0 : Int64) (0 : Int64))), .val (.int (0 : Int32)), .unset, .unset] [])) _
        refine XS.iload X179.here hx rfl (hb hby at_246) rfl ?_
        show Steps p.tables e below (T179.setTop (mkF m 248 #[.val (.int p1), .val (.long q2), .second, .val (.long q3), .second, .val (.long q4), .second, .val (.long q5), .second, .val (.int p6), .val (.int ex), .val (.int fc), .val (.int fw), .val (.long o1), .second, .val (.long l1), .second, .val (.long o2), .second, .val (.long l2), .second, .val (.ref b30), .val (.double (FP.i2d (p6 &&& (65535 : Int32)))), .second, .val (.ref b39), .val (.ref b55), .val (.ref b79), .val (.int (own_vf (nar .boolean ex) (0 : Int64) (0 : Int64))), .val (.int (0 : Int32)), .unset, .unset] [(.int fw)])) _
        refine XS.ifNo X179.here hx rfl (hb hby at_248) rfl ((if0 _ _).trans (feq (hwv : ¬ (fw = (0 : Int32)))).1) ?_
        show Steps p.tables e below (T179.setTop (mkF m 251 #[.val (.int p1), .val (.long q2), .second, .val (.long q3), .second, .val (.long q4), .second, .val (.long q5), .second, .val (.int p6), .val (.int ex), .val (.int fc), .val (.int fw), .val (.long o1), .second, .val (.long l1), .second, .val (.long o2), .second, .val (.long l2), .second, .val (.ref b30), .val (.double (FP.i2d (p6 &&& (65535 : Int32)))), .second, .val (.ref b39), .val (.ref b55), .val (.ref b79), .val (.int (own_vf (nar .boolean ex) (0 : Int64) (0 : Int64))), .val (.int (0 : Int32)), .unset, .unset] [])) _
        refine XS.lload X179.here hx rfl (hb hby at_251) rfl ?_
        show Steps p.tables e below (T179.setTop (mkF m 253 #[.val (.int p1), .val (.long q2), .second, .val (.long q3), .second, .val (.long q4), .second, .val (.long q5), .second, .val (.int p6), .val (.int ex), .val (.int fc), .val (.int fw), .val (.long o1), .second, .val (.long l1), .second, .val (.long o2), .second, .val (.long l2), .second, .val (.ref b30), .val (.double (FP.i2d (p6 &&& (65535 : Int32)))), .second, .val (.ref b39), .val (.ref b55), .val (.ref b79), .val (.int (own_vf (nar .boolean ex) (0 : Int64) (0 : Int64))), .val (.int (0 : Int32)), .unset, .unset] [(.long o2)])) _
        refine XS.lconst X179.here hx rfl (hb hby at_253) ?_
        show Steps p.tables e below (T179.setTop (mkF m 254 #[.val (.int p1), .val (.long q2), .second, .val (.long q3), .second, .val (.long q4), .second, .val (.long q5), .second, .val (.int p6), .val (.int ex), .val (.int fc), .val (.int fw), .val (.long o1), .second, .val (.long l1), .second, .val (.long o2), .second, .val (.long l2), .second, .val (.ref b30), .val (.double (FP.i2d (p6 &&& (65535 : Int32)))), .second, .val (.ref b39), .val (.ref b55), .val (.ref b79), .val (.int (own_vf (nar .boolean ex) (0 : Int64) (0 : Int64))), .val (.int (0 : Int32)), .unset, .unset] [(.long (0 : Int64)), (.long o2)])) _
        refine XS.lcmp X179.here hx rfl (hb hby at_254) rfl ?_
        exact kt
      obtain ⟨s2, q_s2⟩ : ∃ z : Int32, z = (if (lcmpW o2 (0 : Int64)) = (0 : Int32) then (if (lcmpW l2 (0 : Int64)) = (0 : Int32) then (0 : Int32) else (1 : Int32)) else (1 : Int32)) := ⟨_, rfl⟩
      have sg205 : ∀ target, Steps p.tables e below (T179.setTop (mkF m 270 #[.val (.int p1), .val (.long q2), .second, .val (.long q3), .second, .val (.long q4), .second, .val (.long q5), .second, .val (.int p6), .val (.int ex), .val (.int fc), .val (.int fw), .val (.long o1), .second, .val (.long l1), .second, .val (.long o2), .second, .val (.long l2), .second, .val (.ref b30), .val (.double (FP.i2d (p6 &&& (65535 : Int32)))), .second, .val (.ref b39), .val (.ref b55), .val (.ref b79), .val (.int (own_vf (nar .boolean ex) (0 : Int64) (0 : Int64))), .val (.int (0 : Int32)), .unset, .unset] [(.int s2)])) target → Steps p.tables e below (T179.setTop (mkF m 255 #[.val (.int p1), .val (.long q2), .second, .val (.long q3), .second, .val (.long q4), .second, .val (.long q5), .second, .val (.int p6), .val (.int ex), .val (.int fc), .val (.int fw), .val (.long o1), .second, .val (.long l1), .second, .val (.long o2), .second, .val (.long l2), .second, .val (.ref b30), .val (.double (FP.i2d (p6 &&& (65535 : Int32)))), .second, .val (.ref b39), .val (.ref b55), .val (.ref b79), .val (.int (own_vf (nar .boolean ex) (0 : Int64) (0 : Int64))), .val (.int (0 : Int32)), .unset, .unset] [(.int (lcmpW o2 (0 : Int64)))])) target := by
        intro target kt
        by_cases hj203_255 : (lcmpW o2 (0 : Int64)) = (0 : Int32)
        · by_cases hj204_262 : (lcmpW l2 (0 : Int64)) = (0 : Int32)
          · rw [if_pos hj203_255, if_pos hj204_262] at q_s2
            rw [q_s2] at kt
            show Steps p.tables e below (T179.setTop (mkF m 255 #[.val (.int p1), .val (.long q2), .second, .val (.long q3), .second, .val (.long q4), .second, .val (.long q5), .second, .val (.int p6), .val (.int ex), .val (.int fc), .val (.int fw), .val (.long o1), .second, .val (.long l1), .second, .val (.long o2), .second, .val (.long l2), .second, .val (.ref b30), .val (.double (FP.i2d (p6 &&& (65535 : Int32)))), .second, .val (.ref b39), .val (.ref b55), .val (.ref b79), .val (.int (own_vf (nar .boolean ex) (0 : Int64) (0 : Int64))), .val (.int (0 : Int32)), .unset, .unset] [(.int (lcmpW o2 (0 : Int64)))])) _
            refine XS.ifNo X179.here hx rfl (hb hby at_255) rfl ((if0 _ _).trans (teq (hj203_255 : (lcmpW o2 (0 : Int64)) = (0 : Int32))).2) ?_
            show Steps p.tables e below (T179.setTop (mkF m 258 #[.val (.int p1), .val (.long q2), .second, .val (.long q3), .second, .val (.long q4), .second, .val (.long q5), .second, .val (.int p6), .val (.int ex), .val (.int fc), .val (.int fw), .val (.long o1), .second, .val (.long l1), .second, .val (.long o2), .second, .val (.long l2), .second, .val (.ref b30), .val (.double (FP.i2d (p6 &&& (65535 : Int32)))), .second, .val (.ref b39), .val (.ref b55), .val (.ref b79), .val (.int (own_vf (nar .boolean ex) (0 : Int64) (0 : Int64))), .val (.int (0 : Int32)), .unset, .unset] [])) _
            refine XS.lload X179.here hx rfl (hb hby at_258) rfl ?_
            show Steps p.tables e below (T179.setTop (mkF m 260 #[.val (.int p1), .val (.long q2), .second, .val (.long q3), .second, .val (.long q4), .second, .val (.long q5), .second, .val (.int p6), .val (.int ex), .val (.int fc), .val (.int fw), .val (.long o1), .second, .val (.long l1), .second, .val (.long o2), .second, .val (.long l2), .second, .val (.ref b30), .val (.double (FP.i2d (p6 &&& (65535 : Int32)))), .second, .val (.ref b39), .val (.ref b55), .val (.ref b79), .val (.int (own_vf (nar .boolean ex) (0 : Int64) (0 : Int64))), .val (.int (0 : Int32)), .unset, .unset] [(.long l2)])) _
            refine XS.lconst X179.here hx rfl (hb hby at_260) ?_
            show Steps p.tables e below (T179.setTop (mkF m 261 #[.val (.int p1), .val (.long q2), .second, .val (.long q3), .second, .val (.long q4), .second, .val (.long q5), .second, .val (.int p6), .val (.int ex), .val (.int fc), .val (.int fw), .val (.long o1), .second, .val (.long l1), .second, .val (.long o2), .second, .val (.long l2), .second, .val (.ref b30), .val (.double (FP.i2d (p6 &&& (65535 : Int32)))), .second, .val (.ref b39), .val (.ref b55), .val (.ref b79), .val (.int (own_vf (nar .boolean ex) (0 : Int64) (0 : Int64))), .val (.int (0 : Int32)), .unset, .unset] [(.long (0 : Int64)), (.long l2)])) _
            refine XS.lcmp X179.here hx rfl (hb hby at_261) rfl ?_
            show Steps p.tables e below (T179.setTop (mkF m 262 #[.val (.int p1), .val (.long q2), .second, .val (.long q3), .second, .val (.long q4), .second, .val (.long q5), .second, .val (.int p6), .val (.int ex), .val (.int fc), .val (.int fw), .val (.long o1), .second, .val (.long l1), .second, .val (.long o2), .second, .val (.long l2), .second, .val (.ref b30), .val (.double (FP.i2d (p6 &&& (65535 : Int32)))), .second, .val (.ref b39), .val (.ref b55), .val (.ref b79), .val (.int (own_vf (nar .boolean ex) (0 : Int64) (0 : Int64))), .val (.int (0 : Int32)), .unset, .unset] [(.int (lcmpW l2 (0 : Int64)))])) _
            refine XS.ifYes X179.here hx rfl (pc0 := 262) (pc' := 269) rfl (hb hby at_262) rfl ((if0 _ _).trans (teq (hj204_262 : (lcmpW l2 (0 : Int64)) = (0 : Int32))).1) (by decide) (by decide) ?_
            show Steps p.tables e below (T179.setTop (mkF m 269 #[.val (.int p1), .val (.long q2), .second, .val (.long q3), .second, .val (.long q4), .second, .val (.long q5), .second, .val (.int p6), .val (.int ex), .val (.int fc), .val (.int fw), .val (.long o1), .second, .val (.long l1), .second, .val (.long o2), .second, .val (.long l2), .second, .val (.ref b30), .val (.double (FP.i2d (p6 &&& (65535 : Int32)))), .second, .val (.ref b39), .val (.ref b55), .val (.ref b79), .val (.int (own_vf (nar .boolean ex) (0 : Int64) (0 : Int64))), .val (.int (0 : Int32)), .unset, .unset] [])) _
            refine XS.iconst X179.here hx rfl (hb hby at_269) ?_
            exact kt
          · rw [if_pos hj203_255, if_neg hj204_262] at q_s2
            rw [q_s2] at kt
            show Steps p.tables e below (T179.setTop (mkF m 255 #[.val (.int p1), .val (.long q2), .second, .val (.long q3), .second, .val (.long q4), .second, .val (.long q5), .second, .val (.int p6), .val (.int ex), .val (.int fc), .val (.int fw), .val (.long o1), .second, .val (.long l1), .second, .val (.long o2), .second, .val (.long l2), .second, .val (.ref b30), .val (.double (FP.i2d (p6 &&& (65535 : Int32)))), .second, .val (.ref b39), .val (.ref b55), .val (.ref b79), .val (.int (own_vf (nar .boolean ex) (0 : Int64) (0 : Int64))), .val (.int (0 : Int32)), .unset, .unset] [(.int (lcmpW o2 (0 : Int64)))])) _
            refine XS.ifNo X179.here hx rfl (hb hby at_255) rfl ((if0 _ _).trans (teq (hj203_255 : (lcmpW o2 (0 : Int64)) = (0 : Int32))).2) ?_
            show Steps p.tables e below (T179.setTop (mkF m 258 #[.val (.int p1), .val (.long q2), .second, .val (.long q3), .second, .val (.long q4), .second, .val (.long q5), .second, .val (.int p6), .val (.int ex), .val (.int fc), .val (.int fw), .val (.long o1), .second, .val (.long l1), .second, .val (.long o2), .second, .val (.long l2), .second, .val (.ref b30), .val (.double (FP.i2d (p6 &&& (65535 : Int32)))), .second, .val (.ref b39), .val (.ref b55), .val (.ref b79), .val (.int (own_vf (nar .boolean ex) (0 : Int64) (0 : Int64))), .val (.int (0 : Int32)), .unset, .unset] [])) _
            refine XS.lload X179.here hx rfl (hb hby at_258) rfl ?_
            show Steps p.tables e below (T179.setTop (mkF m 260 #[.val (.int p1), .val (.long q2), .second, .val (.long q3), .second, .val (.long q4), .second, .val (.long q5), .second, .val (.int p6), .val (.int ex), .val (.int fc), .val (.int fw), .val (.long o1), .second, .val (.long l1), .second, .val (.long o2), .second, .val (.long l2), .second, .val (.ref b30), .val (.double (FP.i2d (p6 &&& (65535 : Int32)))), .second, .val (.ref b39), .val (.ref b55), .val (.ref b79), .val (.int (own_vf (nar .boolean ex) (0 : Int64) (0 : Int64))), .val (.int (0 : Int32)), .unset, .unset] [(.long l2)])) _
            refine XS.lconst X179.here hx rfl (hb hby at_260) ?_
            show Steps p.tables e below (T179.setTop (mkF m 261 #[.val (.int p1), .val (.long q2), .second, .val (.long q3), .second, .val (.long q4), .second, .val (.long q5), .second, .val (.int p6), .val (.int ex), .val (.int fc), .val (.int fw), .val (.long o1), .second, .val (.long l1), .second, .val (.long o2), .second, .val (.long l2), .second, .val (.ref b30), .val (.double (FP.i2d (p6 &&& (65535 : Int32)))), .second, .val (.ref b39), .val (.ref b55), .val (.ref b79), .val (.int (own_vf (nar .boolean ex) (0 : Int64) (0 : Int64))), .val (.int (0 : Int32)), .unset, .unset] [(.long (0 : Int64)), (.long l2)])) _
            refine XS.lcmp X179.here hx rfl (hb hby at_261) rfl ?_
            show Steps p.tables e below (T179.setTop (mkF m 262 #[.val (.int p1), .val (.long q2), .second, .val (.long q3), .second, .val (.long q4), .second, .val (.long q5), .second, .val (.int p6), .val (.int ex), .val (.int fc), .val (.int fw), .val (.long o1), .second, .val (.long l1), .second, .val (.long o2), .second, .val (.long l2), .second, .val (.ref b30), .val (.double (FP.i2d (p6 &&& (65535 : Int32)))), .second, .val (.ref b39), .val (.ref b55), .val (.ref b79), .val (.int (own_vf (nar .boolean ex) (0 : Int64) (0 : Int64))), .val (.int (0 : Int32)), .unset, .unset] [(.int (lcmpW l2 (0 : Int64)))])) _
            refine XS.ifNo X179.here hx rfl (hb hby at_262) rfl ((if0 _ _).trans (feq (hj204_262 : ¬ ((lcmpW l2 (0 : Int64)) = (0 : Int32)))).1) ?_
            show Steps p.tables e below (T179.setTop (mkF m 265 #[.val (.int p1), .val (.long q2), .second, .val (.long q3), .second, .val (.long q4), .second, .val (.long q5), .second, .val (.int p6), .val (.int ex), .val (.int fc), .val (.int fw), .val (.long o1), .second, .val (.long l1), .second, .val (.long o2), .second, .val (.long l2), .second, .val (.ref b30), .val (.double (FP.i2d (p6 &&& (65535 : Int32)))), .second, .val (.ref b39), .val (.ref b55), .val (.ref b79), .val (.int (own_vf (nar .boolean ex) (0 : Int64) (0 : Int64))), .val (.int (0 : Int32)), .unset, .unset] [])) _
            refine XS.iconst X179.here hx rfl (hb hby at_265) ?_
            show Steps p.tables e below (T179.setTop (mkF m 266 #[.val (.int p1), .val (.long q2), .second, .val (.long q3), .second, .val (.long q4), .second, .val (.long q5), .second, .val (.int p6), .val (.int ex), .val (.int fc), .val (.int fw), .val (.long o1), .second, .val (.long l1), .second, .val (.long o2), .second, .val (.long l2), .second, .val (.ref b30), .val (.double (FP.i2d (p6 &&& (65535 : Int32)))), .second, .val (.ref b39), .val (.ref b55), .val (.ref b79), .val (.int (own_vf (nar .boolean ex) (0 : Int64) (0 : Int64))), .val (.int (0 : Int32)), .unset, .unset] [(.int (1 : Int32))])) _
            refine XS.goto X179.here hx rfl (pc0 := 266) (pc' := 270) rfl (hb hby at_266) (by decide) (by decide) ?_
            exact kt
        · rw [if_neg hj203_255] at q_s2
          rw [q_s2] at kt
          show Steps p.tables e below (T179.setTop (mkF m 255 #[.val (.int p1), .val (.long q2), .second, .val (.long q3), .second, .val (.long q4), .second, .val (.long q5), .second, .val (.int p6), .val (.int ex), .val (.int fc), .val (.int fw), .val (.long o1), .second, .val (.long l1), .second, .val (.long o2), .second, .val (.long l2), .second, .val (.ref b30), .val (.double (FP.i2d (p6 &&& (65535 : Int32)))), .second, .val (.ref b39), .val (.ref b55), .val (.ref b79), .val (.int (own_vf (nar .boolean ex) (0 : Int64) (0 : Int64))), .val (.int (0 : Int32)), .unset, .unset] [(.int (lcmpW o2 (0 : Int64)))])) _
          refine XS.ifYes X179.here hx rfl (pc0 := 255) (pc' := 265) rfl (hb hby at_255) rfl ((if0 _ _).trans (feq (hj203_255 : ¬ ((lcmpW o2 (0 : Int64)) = (0 : Int32)))).2) (by decide) (by decide) ?_
          show Steps p.tables e below (T179.setTop (mkF m 265 #[.val (.int p1), .val (.long q2), .second, .val (.long q3), .second, .val (.long q4), .second, .val (.long q5), .second, .val (.int p6), .val (.int ex), .val (.int fc), .val (.int fw), .val (.long o1), .second, .val (.long l1), .second, .val (.long o2), .second, .val (.long l2), .second, .val (.ref b30), .val (.double (FP.i2d (p6 &&& (65535 : Int32)))), .second, .val (.ref b39), .val (.ref b55), .val (.ref b79), .val (.int (own_vf (nar .boolean ex) (0 : Int64) (0 : Int64))), .val (.int (0 : Int32)), .unset, .unset] [])) _
          refine XS.iconst X179.here hx rfl (hb hby at_265) ?_
          show Steps p.tables e below (T179.setTop (mkF m 266 #[.val (.int p1), .val (.long q2), .second, .val (.long q3), .second, .val (.long q4), .second, .val (.long q5), .second, .val (.int p6), .val (.int ex), .val (.int fc), .val (.int fw), .val (.long o1), .second, .val (.long l1), .second, .val (.long o2), .second, .val (.long l2), .second, .val (.ref b30), .val (.double (FP.i2d (p6 &&& (65535 : Int32)))), .second, .val (.ref b39), .val (.ref b55), .val (.ref b79), .val (.int (own_vf (nar .boolean ex) (0 : Int64) (0 : Int64))), .val (.int (0 : Int32)), .unset, .unset] [(.int (1 : Int32))])) _
          refine XS.goto X179.here hx rfl (pc0 := 266) (pc' := 270) rfl (hb hby at_266) (by decide) (by decide) ?_
          exact kt
      have sg206 : ∀ target, Steps p.tables e below (T179.setTop (mkF m 274 #[.val (.int p1), .val (.long q2), .second, .val (.long q3), .second, .val (.long q4), .second, .val (.long q5), .second, .val (.int p6), .val (.int ex), .val (.int fc), .val (.int fw), .val (.long o1), .second, .val (.long l1), .second, .val (.long o2), .second, .val (.long l2), .second, .val (.ref b30), .val (.double (FP.i2d (p6 &&& (65535 : Int32)))), .second, .val (.ref b39), .val (.ref b55), .val (.ref b79), .val (.int (own_vf (nar .boolean ex) (0 : Int64) (0 : Int64))), .val (.int (0 : Int32)), .val (.int s2), .unset] [(.int ex)])) target → Steps p.tables e below (T179.setTop (mkF m 270 #[.val (.int p1), .val (.long q2), .second, .val (.long q3), .second, .val (.long q4), .second, .val (.long q5), .second, .val (.int p6), .val (.int ex), .val (.int fc), .val (.int fw), .val (.long o1), .second, .val (.long l1), .second, .val (.long o2), .second, .val (.long l2), .second, .val (.ref b30), .val (.double (FP.i2d (p6 &&& (65535 : Int32)))), .second, .val (.ref b39), .val (.ref b55), .val (.ref b79), .val (.int (own_vf (nar .boolean ex) (0 : Int64) (0 : Int64))), .val (.int (0 : Int32)), .unset, .unset] [(.int s2)])) target := by
        intro target kt
        show Steps p.tables e below (T179.setTop (mkF m 270 #[.val (.int p1), .val (.long q2), .second, .val (.long q3), .second, .val (.long q4), .second, .val (.long q5), .second, .val (.int p6), .val (.int ex), .val (.int fc), .val (.int fw), .val (.long o1), .second, .val (.long l1), .second, .val (.long o2), .second, .val (.long l2), .second, .val (.ref b30), .val (.double (FP.i2d (p6 &&& (65535 : Int32)))), .second, .val (.ref b39), .val (.ref b55), .val (.ref b79), .val (.int (own_vf (nar .boolean ex) (0 : Int64) (0 : Int64))), .val (.int (0 : Int32)), .unset, .unset] [(.int s2)])) _
        refine XS.istore X179.here hx rfl (hb hby at_270) rfl (l' := #[.val (.int p1), .val (.long q2), .second, .val (.long q3), .second, .val (.long q4), .second, .val (.long q5), .second, .val (.int p6), .val (.int ex), .val (.int fc), .val (.int fw), .val (.long o1), .second, .val (.long l1), .second, .val (.long o2), .second, .val (.long l2), .second, .val (.ref b30), .val (.double (FP.i2d (p6 &&& (65535 : Int32)))), .second, .val (.ref b39), .val (.ref b55), .val (.ref b79), .val (.int (own_vf (nar .boolean ex) (0 : Int64) (0 : Int64))), .val (.int (0 : Int32)), .val (.int s2), .unset]) rfl ?_
        show Steps p.tables e below (T179.setTop (mkF m 272 #[.val (.int p1), .val (.long q2), .second, .val (.long q3), .second, .val (.long q4), .second, .val (.long q5), .second, .val (.int p6), .val (.int ex), .val (.int fc), .val (.int fw), .val (.long o1), .second, .val (.long l1), .second, .val (.long o2), .second, .val (.long l2), .second, .val (.ref b30), .val (.double (FP.i2d (p6 &&& (65535 : Int32)))), .second, .val (.ref b39), .val (.ref b55), .val (.ref b79), .val (.int (own_vf (nar .boolean ex) (0 : Int64) (0 : Int64))), .val (.int (0 : Int32)), .val (.int s2), .unset] [])) _
        refine XS.iload X179.here hx rfl (hb hby at_272) rfl ?_
        exact kt
      obtain ⟨s3, q_s3⟩ : ∃ z : Int32, z = (if ex = (0 : Int32) then (0 : Int32) else (if s2 = (0 : Int32) then (0 : Int32) else (1 : Int32))) := ⟨_, rfl⟩
      have sg210 : ∀ target, Steps p.tables e below (T179.setTop (mkF m 292 #[.val (.int p1), .val (.long q2), .second, .val (.long q3), .second, .val (.long q4), .second, .val (.long q5), .second, .val (.int p6), .val (.int ex), .val (.int fc), .val (.int fw), .val (.long o1), .second, .val (.long l1), .second, .val (.long o2), .second, .val (.long l2), .second, .val (.ref b30), .val (.double (FP.i2d (p6 &&& (65535 : Int32)))), .second, .val (.ref b39), .val (.ref b55), .val (.ref b79), .val (.int (own_vf (nar .boolean ex) (0 : Int64) (0 : Int64))), .val (.int (0 : Int32)), .val (.int s2), .unset] [(.int s3)])) target → Steps p.tables e below (T179.setTop (mkF m 274 #[.val (.int p1), .val (.long q2), .second, .val (.long q3), .second, .val (.long q4), .second, .val (.long q5), .second, .val (.int p6), .val (.int ex), .val (.int fc), .val (.int fw), .val (.long o1), .second, .val (.long l1), .second, .val (.long o2), .second, .val (.long l2), .second, .val (.ref b30), .val (.double (FP.i2d (p6 &&& (65535 : Int32)))), .second, .val (.ref b39), .val (.ref b55), .val (.ref b79), .val (.int (own_vf (nar .boolean ex) (0 : Int64) (0 : Int64))), .val (.int (0 : Int32)), .val (.int s2), .unset] [(.int ex)])) target := by
        intro target kt
        by_cases hj208_274 : ex = (0 : Int32)
        · rw [if_pos hj208_274] at q_s3
          rw [q_s3] at kt
          show Steps p.tables e below (T179.setTop (mkF m 274 #[.val (.int p1), .val (.long q2), .second, .val (.long q3), .second, .val (.long q4), .second, .val (.long q5), .second, .val (.int p6), .val (.int ex), .val (.int fc), .val (.int fw), .val (.long o1), .second, .val (.long l1), .second, .val (.long o2), .second, .val (.long l2), .second, .val (.ref b30), .val (.double (FP.i2d (p6 &&& (65535 : Int32)))), .second, .val (.ref b39), .val (.ref b55), .val (.ref b79), .val (.int (own_vf (nar .boolean ex) (0 : Int64) (0 : Int64))), .val (.int (0 : Int32)), .val (.int s2), .unset] [(.int ex)])) _
          refine XS.ifYes X179.here hx rfl (pc0 := 274) (pc' := 291) rfl (hb hby at_274) rfl ((if0 _ _).trans (teq (hj208_274 : ex = (0 : Int32))).1) (by decide) (by decide) ?_
          show Steps p.tables e below (T179.setTop (mkF m 291 #[.val (.int p1), .val (.long q2), .second, .val (.long q3), .second, .val (.long q4), .second, .val (.long q5), .second, .val (.int p6), .val (.int ex), .val (.int fc), .val (.int fw), .val (.long o1), .second, .val (.long l1), .second, .val (.long o2), .second, .val (.long l2), .second, .val (.ref b30), .val (.double (FP.i2d (p6 &&& (65535 : Int32)))), .second, .val (.ref b39), .val (.ref b55), .val (.ref b79), .val (.int (own_vf (nar .boolean ex) (0 : Int64) (0 : Int64))), .val (.int (0 : Int32)), .val (.int s2), .unset] [])) _
          refine XS.iconst X179.here hx rfl (hb hby at_291) ?_
          exact kt
        · by_cases hj209_284 : s2 = (0 : Int32)
          · rw [if_neg hj208_274, if_pos hj209_284] at q_s3
            rw [q_s3] at kt
            show Steps p.tables e below (T179.setTop (mkF m 274 #[.val (.int p1), .val (.long q2), .second, .val (.long q3), .second, .val (.long q4), .second, .val (.long q5), .second, .val (.int p6), .val (.int ex), .val (.int fc), .val (.int fw), .val (.long o1), .second, .val (.long l1), .second, .val (.long o2), .second, .val (.long l2), .second, .val (.ref b30), .val (.double (FP.i2d (p6 &&& (65535 : Int32)))), .second, .val (.ref b39), .val (.ref b55), .val (.ref b79), .val (.int (own_vf (nar .boolean ex) (0 : Int64) (0 : Int64))), .val (.int (0 : Int32)), .val (.int s2), .unset] [(.int ex)])) _
            refine XS.ifNo X179.here hx rfl (hb hby at_274) rfl ((if0 _ _).trans (feq (hj208_274 : ¬ (ex = (0 : Int32)))).1) ?_
            show Steps p.tables e below (T179.setTop (mkF m 277 #[.val (.int p1), .val (.long q2), .second, .val (.long q3), .second, .val (.long q4), .second, .val (.long q5), .second, .val (.int p6), .val (.int ex), .val (.int fc), .val (.int fw), .val (.long o1), .second, .val (.long l1), .second, .val (.long o2), .second, .val (.long l2), .second, .val (.ref b30), .val (.double (FP.i2d (p6 &&& (65535 : Int32)))), .second, .val (.ref b39), .val (.ref b55), .val (.ref b79), .val (.int (own_vf (nar .boolean ex) (0 : Int64) (0 : Int64))), .val (.int (0 : Int32)), .val (.int s2), .unset] [])) _
            refine XS.iload X179.here hx rfl (hb hby at_277) rfl ?_
            show Steps p.tables e below (T179.setTop (mkF m 279 #[.val (.int p1), .val (.long q2), .second, .val (.long q3), .second, .val (.long q4), .second, .val (.long q5), .second, .val (.int p6), .val (.int ex), .val (.int fc), .val (.int fw), .val (.long o1), .second, .val (.long l1), .second, .val (.long o2), .second, .val (.long l2), .second, .val (.ref b30), .val (.double (FP.i2d (p6 &&& (65535 : Int32)))), .second, .val (.ref b39), .val (.ref b55), .val (.ref b79), .val (.int (own_vf (nar .boolean ex) (0 : Int64) (0 : Int64))), .val (.int (0 : Int32)), .val (.int s2), .unset] [(.int (0 : Int32))])) _
            refine XS.ifNo X179.here hx rfl (hb hby at_279) rfl ((if0 _ _).trans (teq (by decide : (0 : Int32) = (0 : Int32))).2) ?_
            show Steps p.tables e below (T179.setTop (mkF m 282 #[.val (.int p1), .val (.long q2), .second, .val (.long q3), .second, .val (.long q4), .second, .val (.long q5), .second, .val (.int p6), .val (.int ex), .val (.int fc), .val (.int fw), .val (.long o1), .second, .val (.long l1), .second, .val (.long o2), .second, .val (.long l2), .second, .val (.ref b30), .val (.double (FP.i2d (p6 &&& (65535 : Int32)))), .second, .val (.ref b39), .val (.ref b55), .val (.ref b79), .val (.int (own_vf (nar .boolean ex) (0 : Int64) (0 : Int64))), .val (.int (0 : Int32)), .val (.int s2), .unset] [])) _
            refine XS.iload X179.here hx rfl (hb hby at_282) rfl ?_
            show Steps p.tables e below (T179.setTop (mkF m 284 #[.val (.int p1), .val (.long q2), .second, .val (.long q3), .second, .val (.long q4), .second, .val (.long q5), .second, .val (.int p6), .val (.int ex), .val (.int fc), .val (.int fw), .val (.long o1), .second, .val (.long l1), .second, .val (.long o2), .second, .val (.long l2), .second, .val (.ref b30), .val (.double (FP.i2d (p6 &&& (65535 : Int32)))), .second, .val (.ref b39), .val (.ref b55), .val (.ref b79), .val (.int (own_vf (nar .boolean ex) (0 : Int64) (0 : Int64))), .val (.int (0 : Int32)), .val (.int s2), .unset] [(.int s2)])) _
            refine XS.ifYes X179.here hx rfl (pc0 := 284) (pc' := 291) rfl (hb hby at_284) rfl ((if0 _ _).trans (teq (hj209_284 : s2 = (0 : Int32))).1) (by decide) (by decide) ?_
            show Steps p.tables e below (T179.setTop (mkF m 291 #[.val (.int p1), .val (.long q2), .second, .val (.long q3), .second, .val (.long q4), .second, .val (.long q5), .second, .val (.int p6), .val (.int ex), .val (.int fc), .val (.int fw), .val (.long o1), .second, .val (.long l1), .second, .val (.long o2), .second, .val (.long l2), .second, .val (.ref b30), .val (.double (FP.i2d (p6 &&& (65535 : Int32)))), .second, .val (.ref b39), .val (.ref b55), .val (.ref b79), .val (.int (own_vf (nar .boolean ex) (0 : Int64) (0 : Int64))), .val (.int (0 : Int32)), .val (.int s2), .unset] [])) _
            refine XS.iconst X179.here hx rfl (hb hby at_291) ?_
            exact kt
          · rw [if_neg hj208_274, if_neg hj209_284] at q_s3
            rw [q_s3] at kt
            show Steps p.tables e below (T179.setTop (mkF m 274 #[.val (.int p1), .val (.long q2), .second, .val (.long q3), .second, .val (.long q4), .second, .val (.long q5), .second, .val (.int p6), .val (.int ex), .val (.int fc), .val (.int fw), .val (.long o1), .second, .val (.long l1), .second, .val (.long o2), .second, .val (.long l2), .second, .val (.ref b30), .val (.double (FP.i2d (p6 &&& (65535 : Int32)))), .second, .val (.ref b39), .val (.ref b55), .val (.ref b79), .val (.int (own_vf (nar .boolean ex) (0 : Int64) (0 : Int64))), .val (.int (0 : Int32)), .val (.int s2), .unset] [(.int ex)])) _
            refine XS.ifNo X179.here hx rfl (hb hby at_274) rfl ((if0 _ _).trans (feq (hj208_274 : ¬ (ex = (0 : Int32)))).1) ?_
            show Steps p.tables e below (T179.setTop (mkF m 277 #[.val (.int p1), .val (.long q2), .second, .val (.long q3), .second, .val (.long q4), .second, .val (.long q5), .second, .val (.int p6), .val (.int ex), .val (.int fc), .val (.int fw), .val (.long o1), .second, .val (.long l1), .second, .val (.long o2), .second, .val (.long l2), .second, .val (.ref b30), .val (.double (FP.i2d (p6 &&& (65535 : Int32)))), .second, .val (.ref b39), .val (.ref b55), .val (.ref b79), .val (.int (own_vf (nar .boolean ex) (0 : Int64) (0 : Int64))), .val (.int (0 : Int32)), .val (.int s2), .unset] [])) _
            refine XS.iload X179.here hx rfl (hb hby at_277) rfl ?_
            show Steps p.tables e below (T179.setTop (mkF m 279 #[.val (.int p1), .val (.long q2), .second, .val (.long q3), .second, .val (.long q4), .second, .val (.long q5), .second, .val (.int p6), .val (.int ex), .val (.int fc), .val (.int fw), .val (.long o1), .second, .val (.long l1), .second, .val (.long o2), .second, .val (.long l2), .second, .val (.ref b30), .val (.double (FP.i2d (p6 &&& (65535 : Int32)))), .second, .val (.ref b39), .val (.ref b55), .val (.ref b79), .val (.int (own_vf (nar .boolean ex) (0 : Int64) (0 : Int64))), .val (.int (0 : Int32)), .val (.int s2), .unset] [(.int (0 : Int32))])) _
            refine XS.ifNo X179.here hx rfl (hb hby at_279) rfl ((if0 _ _).trans (teq (by decide : (0 : Int32) = (0 : Int32))).2) ?_
            show Steps p.tables e below (T179.setTop (mkF m 282 #[.val (.int p1), .val (.long q2), .second, .val (.long q3), .second, .val (.long q4), .second, .val (.long q5), .second, .val (.int p6), .val (.int ex), .val (.int fc), .val (.int fw), .val (.long o1), .second, .val (.long l1), .second, .val (.long o2), .second, .val (.long l2), .second, .val (.ref b30), .val (.double (FP.i2d (p6 &&& (65535 : Int32)))), .second, .val (.ref b39), .val (.ref b55), .val (.ref b79), .val (.int (own_vf (nar .boolean ex) (0 : Int64) (0 : Int64))), .val (.int (0 : Int32)), .val (.int s2), .unset] [])) _
            refine XS.iload X179.here hx rfl (hb hby at_282) rfl ?_
            show Steps p.tables e below (T179.setTop (mkF m 284 #[.val (.int p1), .val (.long q2), .second, .val (.long q3), .second, .val (.long q4), .second, .val (.long q5), .second, .val (.int p6), .val (.int ex), .val (.int fc), .val (.int fw), .val (.long o1), .second, .val (.long l1), .second, .val (.long o2), .second, .val (.long l2), .second, .val (.ref b30), .val (.double (FP.i2d (p6 &&& (65535 : Int32)))), .second, .val (.ref b39), .val (.ref b55), .val (.ref b79), .val (.int (own_vf (nar .boolean ex) (0 : Int64) (0 : Int64))), .val (.int (0 : Int32)), .val (.int s2), .unset] [(.int s2)])) _
            refine XS.ifNo X179.here hx rfl (hb hby at_284) rfl ((if0 _ _).trans (feq (hj209_284 : ¬ (s2 = (0 : Int32)))).1) ?_
            show Steps p.tables e below (T179.setTop (mkF m 287 #[.val (.int p1), .val (.long q2), .second, .val (.long q3), .second, .val (.long q4), .second, .val (.long q5), .second, .val (.int p6), .val (.int ex), .val (.int fc), .val (.int fw), .val (.long o1), .second, .val (.long l1), .second, .val (.long o2), .second, .val (.long l2), .second, .val (.ref b30), .val (.double (FP.i2d (p6 &&& (65535 : Int32)))), .second, .val (.ref b39), .val (.ref b55), .val (.ref b79), .val (.int (own_vf (nar .boolean ex) (0 : Int64) (0 : Int64))), .val (.int (0 : Int32)), .val (.int s2), .unset] [])) _
            refine XS.iconst X179.here hx rfl (hb hby at_287) ?_
            show Steps p.tables e below (T179.setTop (mkF m 288 #[.val (.int p1), .val (.long q2), .second, .val (.long q3), .second, .val (.long q4), .second, .val (.long q5), .second, .val (.int p6), .val (.int ex), .val (.int fc), .val (.int fw), .val (.long o1), .second, .val (.long l1), .second, .val (.long o2), .second, .val (.long l2), .second, .val (.ref b30), .val (.double (FP.i2d (p6 &&& (65535 : Int32)))), .second, .val (.ref b39), .val (.ref b55), .val (.ref b79), .val (.int (own_vf (nar .boolean ex) (0 : Int64) (0 : Int64))), .val (.int (0 : Int32)), .val (.int s2), .unset] [(.int (1 : Int32))])) _
            refine XS.goto X179.here hx rfl (pc0 := 288) (pc' := 292) rfl (hb hby at_288) (by decide) (by decide) ?_
            exact kt
      have sg211 : ∀ target, Steps p.tables e below (T179.setTop (mkF m 301 #[.val (.int p1), .val (.long q2), .second, .val (.long q3), .second, .val (.long q4), .second, .val (.long q5), .second, .val (.int p6), .val (.int ex), .val (.int fc), .val (.int fw), .val (.long o1), .second, .val (.long l1), .second, .val (.long o2), .second, .val (.long l2), .second, .val (.ref b30), .val (.double (FP.i2d (p6 &&& (65535 : Int32)))), .second, .val (.ref b39), .val (.ref b55), .val (.ref b79), .val (.int (own_vf (nar .boolean ex) (0 : Int64) (0 : Int64))), .val (.int (0 : Int32)), .val (.int s2), .val (.int s3)] [(.ref b79)])) target → Steps p.tables e below (T179.setTop (mkF m 292 #[.val (.int p1), .val (.long q2), .second, .val (.long q3), .second, .val (.long q4), .second, .val (.long q5), .second, .val (.int p6), .val (.int ex), .val (.int fc), .val (.int fw), .val (.long o1), .second, .val (.long l1), .second, .val (.long o2), .second, .val (.long l2), .second, .val (.ref b30), .val (.double (FP.i2d (p6 &&& (65535 : Int32)))), .second, .val (.ref b39), .val (.ref b55), .val (.ref b79), .val (.int (own_vf (nar .boolean ex) (0 : Int64) (0 : Int64))), .val (.int (0 : Int32)), .val (.int s2), .unset] [(.int s3)])) target := by
        intro target kt
        show Steps p.tables e below (T179.setTop (mkF m 292 #[.val (.int p1), .val (.long q2), .second, .val (.long q3), .second, .val (.long q4), .second, .val (.long q5), .second, .val (.int p6), .val (.int ex), .val (.int fc), .val (.int fw), .val (.long o1), .second, .val (.long l1), .second, .val (.long o2), .second, .val (.long l2), .second, .val (.ref b30), .val (.double (FP.i2d (p6 &&& (65535 : Int32)))), .second, .val (.ref b39), .val (.ref b55), .val (.ref b79), .val (.int (own_vf (nar .boolean ex) (0 : Int64) (0 : Int64))), .val (.int (0 : Int32)), .val (.int s2), .unset] [(.int s3)])) _
        refine XS.istore X179.here hx rfl (hb hby at_292) rfl (l' := #[.val (.int p1), .val (.long q2), .second, .val (.long q3), .second, .val (.long q4), .second, .val (.long q5), .second, .val (.int p6), .val (.int ex), .val (.int fc), .val (.int fw), .val (.long o1), .second, .val (.long l1), .second, .val (.long o2), .second, .val (.long l2), .second, .val (.ref b30), .val (.double (FP.i2d (p6 &&& (65535 : Int32)))), .second, .val (.ref b39), .val (.ref b55), .val (.ref b79), .val (.int (own_vf (nar .boolean ex) (0 : Int64) (0 : Int64))), .val (.int (0 : Int32)), .val (.int s2), .val (.int s3)]) rfl ?_
        show Steps p.tables e below (T179.setTop (mkF m 294 #[.val (.int p1), .val (.long q2), .second, .val (.long q3), .second, .val (.long q4), .second, .val (.long q5), .second, .val (.int p6), .val (.int ex), .val (.int fc), .val (.int fw), .val (.long o1), .second, .val (.long l1), .second, .val (.long o2), .second, .val (.long l2), .second, .val (.ref b30), .val (.double (FP.i2d (p6 &&& (65535 : Int32)))), .second, .val (.ref b39), .val (.ref b55), .val (.ref b79), .val (.int (own_vf (nar .boolean ex) (0 : Int64) (0 : Int64))), .val (.int (0 : Int32)), .val (.int s2), .val (.int s3)] [])) _
        refine XS.iload X179.here hx rfl (hb hby at_294) rfl ?_
        show Steps p.tables e below (T179.setTop (mkF m 296 #[.val (.int p1), .val (.long q2), .second, .val (.long q3), .second, .val (.long q4), .second, .val (.long q5), .second, .val (.int p6), .val (.int ex), .val (.int fc), .val (.int fw), .val (.long o1), .second, .val (.long l1), .second, .val (.long o2), .second, .val (.long l2), .second, .val (.ref b30), .val (.double (FP.i2d (p6 &&& (65535 : Int32)))), .second, .val (.ref b39), .val (.ref b55), .val (.ref b79), .val (.int (own_vf (nar .boolean ex) (0 : Int64) (0 : Int64))), .val (.int (0 : Int32)), .val (.int s2), .val (.int s3)] [(.int (own_vf (nar .boolean ex) (0 : Int64) (0 : Int64)))])) _
        refine XS.ifNo X179.here hx rfl (hb hby at_296) rfl ((if0 _ _).trans (teq (own_fresh _ : (own_vf (nar .boolean ex) (0 : Int64) (0 : Int64)) = (0 : Int32))).2) ?_
        show Steps p.tables e below (T179.setTop (mkF m 299 #[.val (.int p1), .val (.long q2), .second, .val (.long q3), .second, .val (.long q4), .second, .val (.long q5), .second, .val (.int p6), .val (.int ex), .val (.int fc), .val (.int fw), .val (.long o1), .second, .val (.long l1), .second, .val (.long o2), .second, .val (.long l2), .second, .val (.ref b30), .val (.double (FP.i2d (p6 &&& (65535 : Int32)))), .second, .val (.ref b39), .val (.ref b55), .val (.ref b79), .val (.int (own_vf (nar .boolean ex) (0 : Int64) (0 : Int64))), .val (.int (0 : Int32)), .val (.int s2), .val (.int s3)] [])) _
        refine XS.aload X179.here hx rfl (hb hby at_299) rfl rfl ?_
        exact kt
      obtain ⟨cq212, kq212, q212a, q212b, q212c⟩ := isOf hZ rfl f196
      obtain ⟨_, _, ⟨T212, L212, k212, n212⟩, -, X212, ⟨Lc212, hQ212, l212, y212, z212⟩, st212⟩ := X179.virtualBack hx (y := (⟨"com/example/brelok/brelok/perf/Tally", "failedToExclude", "()Z"⟩ : MethodName)) (z := (⟨"com/example/brelok/brelok/perf/Tally", "failedToExclude", "()Z"⟩ : MethodName)) hown (mvT hZ (hw _ (List.mem_of_getElem? (i := 89) rfl))) (mvT hZ (hw _ (List.mem_of_getElem? (i := 90) rfl))) (notFace_of_selects (args := #[]) (mvT hZ (hw _ (List.mem_of_getElem? (i := 92) rfl)))) (mvT hZ (hw _ (List.mem_of_getElem? (i := 92) rfl))) (mvT hZ (hw _ (List.mem_of_getElem? (i := 91) rfl))) (by decide) (backOf (W := 0) (rm13 l Z a0 hw [] b79 (nar .boolean ex) ((0 : Int64) + o2) ((0 : Int64) + l2) T179.heap n0 Zs179 f197 f199 f200) hZ (hw _ (List.mem_of_getElem? (i := 93) rfl)) (hw _ (List.mem_of_getElem? (i := 25) rfl)) (by decide) (by decide)) q212a q212c (g := (mkF m 301 #[.val (.int p1), .val (.long q2), .second, .val (.long q3), .second, .val (.long q4), .second, .val (.long q5), .second, .val (.int p6), .val (.int ex), .val (.int fc), .val (.int fw), .val (.long o1), .second, .val (.long l1), .second, .val (.long o2), .second, .val (.long l2), .second, .val (.ref b30), .val (.double (FP.i2d (p6 &&& (65535 : Int32)))), .second, .val (.ref b39), .val (.ref b55), .val (.ref b79), .val (.int (own_vf (nar .boolean ex) (0 : Int64) (0 : Int64))), .val (.int (0 : Int32)), .val (.int s2), .val (.int s3)] [(.ref b79)])) rfl (by rw [hml]; rfl) (Steps.refl _) (argsL := []) (rest := []) (lenOf pd_4 rfl) rfl (by show 2 * 0 + _ ≤ _; exact Nat.le_of_eq rfl) (hb hby at_301) (fun _ _ => ⟨rfl, rfl, (by decide : 8 + 0 ≤ _), (by decide : 25 + 0 ≤ _)⟩)
      dsimp only [Pt.U, Pt.locs, Pt.cells, Pt.slots] at X212 l212 y212 z212 st212 hQ212
      subst l212 y212 z212
      obtain ⟨rfl, N212q, c212_0⟩ := hQ212
      have N212 := Fr.app N179 N212q
      have sg213 : ∀ target, Steps p.tables e below (T212.setTop (mkF m 314 #[.val (.int p1), .val (.long q2), .second, .val (.long q3), .second, .val (.long q4), .second, .val (.long q5), .second, .val (.int p6), .val (.int ex), .val (.int fc), .val (.int fw), .val (.long o1), .second, .val (.long l1), .second, .val (.long o2), .second, .val (.long l2), .second, .val (.ref b30), .val (.double (FP.i2d (p6 &&& (65535 : Int32)))), .second, .val (.ref b39), .val (.ref b55), .val (.ref b79), .val (.int (own_vf (nar .boolean ex) (0 : Int64) (0 : Int64))), .val (.int (0 : Int32)), .val (.int s2), .val (.int s3)] [(.int (1 : Int32))])) target → Steps p.tables e below (T212.setTop (mkF m 304 #[.val (.int p1), .val (.long q2), .second, .val (.long q3), .second, .val (.long q4), .second, .val (.long q5), .second, .val (.int p6), .val (.int ex), .val (.int fc), .val (.int fw), .val (.long o1), .second, .val (.long l1), .second, .val (.long o2), .second, .val (.long l2), .second, .val (.ref b30), .val (.double (FP.i2d (p6 &&& (65535 : Int32)))), .second, .val (.ref b39), .val (.ref b55), .val (.ref b79), .val (.int (own_vf (nar .boolean ex) (0 : Int64) (0 : Int64))), .val (.int (0 : Int32)), .val (.int s2), .val (.int s3)] [(.int (own_vf (nar .boolean ex) ((0 : Int64) + o2) ((0 : Int64) + l2)))])) target := by
        intro target kt
        show Steps p.tables e below (T212.setTop (mkF m 304 #[.val (.int p1), .val (.long q2), .second, .val (.long q3), .second, .val (.long q4), .second, .val (.long q5), .second, .val (.int p6), .val (.int ex), .val (.int fc), .val (.int fw), .val (.long o1), .second, .val (.long l1), .second, .val (.long o2), .second, .val (.long l2), .second, .val (.ref b30), .val (.double (FP.i2d (p6 &&& (65535 : Int32)))), .second, .val (.ref b39), .val (.ref b55), .val (.ref b79), .val (.int (own_vf (nar .boolean ex) (0 : Int64) (0 : Int64))), .val (.int (0 : Int32)), .val (.int s2), .val (.int s3)] [(.int (own_vf (nar .boolean ex) ((0 : Int64) + o2) ((0 : Int64) + l2)))])) _
        refine XS.iload X212.here hx rfl (hb hby at_304) rfl ?_
        show Steps p.tables e below (T212.setTop (mkF m 306 #[.val (.int p1), .val (.long q2), .second, .val (.long q3), .second, .val (.long q4), .second, .val (.long q5), .second, .val (.int p6), .val (.int ex), .val (.int fc), .val (.int fw), .val (.long o1), .second, .val (.long l1), .second, .val (.long o2), .second, .val (.long l2), .second, .val (.ref b30), .val (.double (FP.i2d (p6 &&& (65535 : Int32)))), .second, .val (.ref b39), .val (.ref b55), .val (.ref b79), .val (.int (own_vf (nar .boolean ex) (0 : Int64) (0 : Int64))), .val (.int (0 : Int32)), .val (.int s2), .val (.int s3)] [(.int s3), (.int (own_vf (nar .boolean ex) ((0 : Int64) + o2) ((0 : Int64) + l2)))])) _
        refine XS.icmpNo X212.here hx rfl (hb hby at_306) rfl (teq (by rw [q_s3, q_s2, hex]; exact own_one b_o2 b_l2 ex : (own_vf (nar .boolean ex) ((0 : Int64) + o2) ((0 : Int64) + l2)) = s3)).2 ?_
        show Steps p.tables e below (T212.setTop (mkF m 309 #[.val (.int p1), .val (.long q2), .second, .val (.long q3), .second, .val (.long q4), .second, .val (.long q5), .second, .val (.int p6), .val (.int ex), .val (.int fc), .val (.int fw), .val (.long o1), .second, .val (.long l1), .second, .val (.long o2), .second, .val (.long l2), .second, .val (.ref b30), .val (.double (FP.i2d (p6 &&& (65535 : Int32)))), .second, .val (.ref b39), .val (.ref b55), .val (.ref b79), .val (.int (own_vf (nar .boolean ex) (0 : Int64) (0 : Int64))), .val (.int (0 : Int32)), .val (.int s2), .val (.int s3)] [])) _
        refine XS.iconst X212.here hx rfl (hb hby at_309) ?_
        show Steps p.tables e below (T212.setTop (mkF m 310 #[.val (.int p1), .val (.long q2), .second, .val (.long q3), .second, .val (.long q4), .second, .val (.long q5), .second, .val (.int p6), .val (.int ex), .val (.int fc), .val (.int fw), .val (.long o1), .second, .val (.long l1), .second, .val (.long o2), .second, .val (.long l2), .second, .val (.ref b30), .val (.double (FP.i2d (p6 &&& (65535 : Int32)))), .second, .val (.ref b39), .val (.ref b55), .val (.ref b79), .val (.int (own_vf (nar .boolean ex) (0 : Int64) (0 : Int64))), .val (.int (0 : Int32)), .val (.int s2), .val (.int s3)] [(.int (1 : Int32))])) _
        refine XS.goto X212.here hx rfl (pc0 := 310) (pc' := 314) rfl (hb hby at_310) (by decide) (by decide) ?_
        exact kt
      obtain ⟨fs, hr, hrun, hended, hW, hsame⟩ := X212.leave (v := some (.int (1 : Int32))) (fun h => by rw [Bd.returns] at h; cases h)
      refine ⟨_, _, pre0 _ ?_, hrun, hended, _, _, rfl, ?_, ⟨_, rfl⟩, hW, hsame.mono (by decide) (by decide)⟩
      · show Steps p.tables e below (s₁.setTop (mkF m 0 #[.val (.int p1), .val (.long q2), .second, .val (.long q3), .second, .val (.long q4), .second, .val (.long q5), .second, .val (.int p6), .unset, .unset, .unset, .unset, .unset, .unset, .unset, .unset, .unset, .unset, .unset, .unset, .unset, .unset, .unset, .unset, .unset, .unset, .unset, .unset, .unset] [])) _
        refine sg1 _ ?_
        refine sg4 _ ?_
        refine sg5 _ ?_
        refine sg8 _ ?_
        refine sg9 _ ?_
        refine sg12 _ ?_
        refine sg13 _ ?_
        refine sg16 _ ?_
        refine sg17 _ ?_
        refine sg20 _ ?_
        refine sg21 _ ?_
        refine sg24 _ ?_
        refine sg25 _ ?_
        refine sg28 _ ?_
        refine sg29 _ ?_
        refine st30 _ ?_
        refine sg33 _ ?_
        refine st35 _ ?_
        refine sg38 _ ?_
        refine st39 _ ?_
        refine sg46 _ ?_
        refine st47.trans ?_
        refine sg54 _ ?_
        refine st55 _ ?_
        refine sg66 _ ?_
        refine st67.trans ?_
        refine sg78 _ ?_
        refine st79 _ ?_
        refine sg98 _ ?_
        refine st99 _ ?_
        refine sg121 _ ?_
        refine st122.trans ?_
        refine sg143 _ ?_
        refine st144.trans ?_
        refine sg167 _ ?_
        refine st168.trans ?_
        refine sg169 _ ?_
        refine sg170 _ ?_
        refine sg178 _ ?_
        refine st179.trans ?_
        refine sg201 _ ?_
        refine sg205 _ ?_
        refine sg206 _ ?_
        refine sg210 _ ?_
        refine sg211 _ ?_
        refine st212.trans ?_
        refine sg213 _ ?_
        show Steps p.tables e below (T212.setTop (mkF m 314 #[.val (.int p1), .val (.long q2), .second, .val (.long q3), .second, .val (.long q4), .second, .val (.long q5), .second, .val (.int p6), .val (.int ex), .val (.int fc), .val (.int fw), .val (.long o1), .second, .val (.long l1), .second, .val (.long o2), .second, .val (.long l2), .second, .val (.ref b30), .val (.double (FP.i2d (p6 &&& (65535 : Int32)))), .second, .val (.ref b39), .val (.ref b55), .val (.ref b79), .val (.int (own_vf (nar .boolean ex) (0 : Int64) (0 : Int64))), .val (.int (0 : Int32)), .val (.int s2), .val (.int s3)] [(.int (1 : Int32))])) _
        exact retN X212 hx (t := .boolean) Bd.returns (by simp) (hb hby at_314) hr
      · show Q_rm0 Z p1 q2 q3 q4 q5 p6 d0 kd G1 h0 n0 _ T212.heap _
        rw [c212_0]
        exact ⟨rfl, N212⟩
  · have sg214 : ∀ target, Steps p.tables e below (T168.setTop (mkF m 205 #[.val (.int p1), .val (.long q2), .second, .val (.long q3), .second, .val (.long q4), .second, .val (.long q5), .second, .val (.int p6), .val (.int ex), .val (.int fc), .val (.int fw), .val (.long o1), .second, .val (.long l1), .second, .val (.long o2), .second, .val (.long l2), .second, .val (.ref b30), .val (.double (FP.i2d (p6 &&& (65535 : Int32)))), .second, .val (.ref b39), .val (.ref b55), .val (.ref b79), .val (.int (own_vf (nar .boolean ex) (0 : Int64) (0 : Int64))), .unset, .unset, .unset] [(.ref b39), (.ref b79)])) target → Steps p.tables e below (T168.setTop (mkF m 198 #[.val (.int p1), .val (.long q2), .second, .val (.long q3), .second, .val (.long q4), .second, .val (.long q5), .second, .val (.int p6), .val (.int ex), .val (.int fc), .val (.int fw), .val (.long o1), .second, .val (.long l1), .second, .val (.long o2), .second, .val (.long l2), .second, .val (.ref b30), .val (.double (FP.i2d (p6 &&& (65535 : Int32)))), .second, .val (.ref b39), .val (.ref b55), .val (.ref b79), .val (.int (own_vf (nar .boolean ex) (0 : Int64) (0 : Int64))), .unset, .unset, .unset] [(.int fc)])) target := by
      intro target kt
      show Steps p.tables e below (T168.setTop (mkF m 198 #[.val (.int p1), .val (.long q2), .second, .val (.long q3), .second, .val (.long q4), .second, .val (.long q5), .second, .val (.int p6), .val (.int ex), .val (.int fc), .val (.int fw), .val (.long o1), .second, .val (.long l1), .second, .val (.long o2), .second, .val (.long l2), .second, .val (.ref b30), .val (.double (FP.i2d (p6 &&& (65535 : Int32)))), .second, .val (.ref b39), .val (.ref b55), .val (.ref b79), .val (.int (own_vf (nar .boolean ex) (0 : Int64) (0 : Int64))), .unset, .unset, .unset] [(.int fc)])) _
      refine XS.ifNo X168.here hx rfl (hb hby at_198) rfl ((if0 _ _).trans (feq (hc : ¬ (fc = (0 : Int32)))).1) ?_
      show Steps p.tables e below (T168.setTop (mkF m 201 #[.val (.int p1), .val (.long q2), .second, .val (.long q3), .second, .val (.long q4), .second, .val (.long q5), .second, .val (.int p6), .val (.int ex), .val (.int fc), .val (.int fw), .val (.long o1), .second, .val (.long l1), .second, .val (.long o2), .second, .val (.long l2), .second, .val (.ref b30), .val (.double (FP.i2d (p6 &&& (65535 : Int32)))), .second, .val (.ref b39), .val (.ref b55), .val (.ref b79), .val (.int (own_vf (nar .boolean ex) (0 : Int64) (0 : Int64))), .unset, .unset, .unset] [])) _
      refine XS.aload X168.here hx rfl (hb hby at_201) rfl rfl ?_
      show Steps p.tables e below (T168.setTop (mkF m 203 #[.val (.int p1), .val (.long q2), .second, .val (.long q3), .second, .val (.long q4), .second, .val (.long q5), .second, .val (.int p6), .val (.int ex), .val (.int fc), .val (.int fw), .val (.long o1), .second, .val (.long l1), .second, .val (.long o2), .second, .val (.long l2), .second, .val (.ref b30), .val (.double (FP.i2d (p6 &&& (65535 : Int32)))), .second, .val (.ref b39), .val (.ref b55), .val (.ref b79), .val (.int (own_vf (nar .boolean ex) (0 : Int64) (0 : Int64))), .unset, .unset, .unset] [(.ref b79)])) _
      refine XS.aload X168.here hx rfl (hb hby at_203) rfl rfl ?_
      exact kt
    obtain ⟨cq215, kq215, q215a, q215b, q215c⟩ := isOf hZ c168_0 f157
    obtain ⟨_, _, ⟨T215, L215, k215, n215⟩, -, X215, ⟨Lc215, hQ215, l215, y215, z215⟩, st215⟩ := X168.virtualBack hx (y := (⟨"com/example/brelok/brelok/perf/Tally", "addContended", "(Lcom/example/brelok/brelok/perf/Timing$Measure;)V"⟩ : MethodName)) (z := (⟨"com/example/brelok/brelok/perf/Tally", "addContended", "(Lcom/example/brelok/brelok/perf/Timing$Measure;)V"⟩ : MethodName)) hown (mvT hZ (hw _ (List.mem_of_getElem? (i := 94) rfl))) (mvT hZ (hw _ (List.mem_of_getElem? (i := 95) rfl))) (notFace_of_selects (args := #[]) (mvT hZ (hw _ (List.mem_of_getElem? (i := 97) rfl)))) (mvT hZ (hw _ (List.mem_of_getElem? (i := 97) rfl))) (mvT hZ (hw _ (List.mem_of_getElem? (i := 96) rfl))) (by decide) (backOf (W := 0) (rm14 l Z a0 hw [] b79 b39 (nar .boolean ex) (0 : UInt64) (0 : Int64) (0 : Int64) (FP.i2d (p6 &&& (65535 : Int32))) o1 l1 lc_144 (0 : Int32) d0 kd T144.heap n0 Zs144 f157 f159 f160 f161 f162 g_b79 f147 f148 f149 f150 f158 f163 f164 f165 f166 c144_1 ne_b39_b79 c144_2 ne_b39_lc_144 f145 S0 V0) hZ (hw _ (List.mem_of_getElem? (i := 98) rfl)) (hw _ (List.mem_of_getElem? (i := 25) rfl)) (by decide) (by decide)) q215a q215c (g := (mkF m 205 #[.val (.int p1), .val (.long q2), .second, .val (.long q3), .second, .val (.long q4), .second, .val (.long q5), .second, .val (.int p6), .val (.int ex), .val (.int fc), .val (.int fw), .val (.long o1), .second, .val (.long l1), .second, .val (.long o2), .second, .val (.long l2), .second, .val (.ref b30), .val (.double (FP.i2d (p6 &&& (65535 : Int32)))), .second, .val (.ref b39), .val (.ref b55), .val (.ref b79), .val (.int (own_vf (nar .boolean ex) (0 : Int64) (0 : Int64))), .unset, .unset, .unset] [(.ref b39), (.ref b79)])) rfl (by rw [hml]; rfl) (Steps.refl _) (argsL := [(.ref b39)]) (rest := []) (lenOf pd_11 rfl) rfl (by show 2 * 0 + _ ≤ _; exact Nat.le_of_eq rfl) (hb hby at_205) (fun _ _ => ⟨rfl, c168_0, (by decide : 8 + 2 ≤ _), (by decide : 25 + 11 ≤ _)⟩)
    dsimp only [Pt.U, Pt.locs, Pt.cells, Pt.slots] at X215 l215 y215 z215 st215 hQ215
    subst l215 y215 z215
    obtain ⟨rfl, N215q, c215_0, c215_1, c215_2, c215_3, c215_4, c215_5⟩ := hQ215
    have N215 := Fr.app N168 N215q
    have Zs215 : n0 ≤ T215.heap.size := Nat.le_trans Zs144 c215_0.1
    have f216 : Old Z n0 T215.heap := f145.keep c215_0 (allS c144_1 (allS g_b79 all0))
    have f217 : Arv Z T215.heap b30 k30 .char (1 : Int32) [(.int (nar .char (own_ch p1)))] (.int (0 : Int32)) := f146.keep c215_0 (ninS ne_b30_lc_144 (ninS ne_b30_b79 nin0))
    have f218 : Exa Z T215.heap b39 "com/example/brelok/brelok/perf/Timing$Measure" := f147.keep c215_0
    have f219 : Fld Z T215.heap b39 "com/example/brelok/brelok/perf/Timing$Measure" "figure" "D" (.double (FP.i2d (p6 &&& (65535 : Int32)))) := f148.keep c215_0 (ninS ne_b39_lc_144 (ninS ne_b39_b79 nin0))
    have f220 : Fld Z T215.heap b39 "com/example/brelok/brelok/perf/Timing$Measure" "overlaps" "J" (.long o1) := f149.keep c215_0 (ninS ne_b39_lc_144 (ninS ne_b39_b79 nin0))
    have f221 : Fld Z T215.heap b39 "com/example/brelok/brelok/perf/Timing$Measure" "lostUpdates" "J" (.long l1) := f150.keep c215_0 (ninS ne_b39_lc_144 (ninS ne_b39_b79 nin0))
    have f222 : Exa Z T215.heap b55 "com/example/brelok/brelok/perf/Timing$Measure" := f151.keep c215_0
    have f223 : Fld Z T215.heap b55 "com/example/brelok/brelok/perf/Timing$Measure" "figure" "D" (.double (FP.i2d (p6 &&& (65535 : Int32)))) := f152.keep c215_0 (ninS ne_b55_lc_144 (ninS ne_b55_b79 nin0))
    have f224 : Fld Z T215.heap b55 "com/example/brelok/brelok/perf/Timing$Measure" "overlaps" "J" (.long o2) := f153.keep c215_0 (ninS ne_b55_lc_144 (ninS ne_b55_b79 nin0))
    have f225 : Fld Z T215.heap b55 "com/example/brelok/brelok/perf/Timing$Measure" "lostUpdates" "J" (.long l2) := f154.keep c215_0 (ninS ne_b55_lc_144 (ninS ne_b55_b79 nin0))
    have f226 : Exa Z T215.heap b99 "java/lang/String" := f155.keep c215_0
    have f227 : Fld Z T215.heap b99 "java/lang/String" "coder" "B" (.int (0 : Int32)) := f156.keep c215_0 (ninS ne_b99_lc_144 (ninS (Ne.symm ne_b79_b99) nin0))
    have f228 : Exa Z T215.heap lc_144 "java/util/ArrayList" := f163.keep c215_0
    have f229 : Exa Z T215.heap b79 "com/example/brelok/brelok/perf/Tally" := c215_1
    have f230 : Fld Z T215.heap b79 "com/example/brelok/brelok/perf/Tally" "excludes" "Z" (.int (nar .boolean ex)) := c215_2
    have f231 : Fld Z T215.heap b79 "com/example/brelok/brelok/perf/Tally" "waiting" "D" (.double (0 : UInt64)) := c215_3
    have f232 : Fld Z T215.heap b79 "com/example/brelok/brelok/perf/Tally" "overlaps" "J" (.long ((0 : Int64) + o1)) := c215_4
    have f233 : Fld Z T215.heap b79 "com/example/brelok/brelok/perf/Tally" "lostUpdates" "J" (.long ((0 : Int64) + l1)) := c215_5
    have sg234 : ∀ target, Steps p.tables e below (T215.setTop (mkF m 210 #[.val (.int p1), .val (.long q2), .second, .val (.long q3), .second, .val (.long q4), .second, .val (.long q5), .second, .val (.int p6), .val (.int ex), .val (.int fc), .val (.int fw), .val (.long o1), .second, .val (.long l1), .second, .val (.long o2), .second, .val (.long l2), .second, .val (.ref b30), .val (.double (FP.i2d (p6 &&& (65535 : Int32)))), .second, .val (.ref b39), .val (.ref b55), .val (.ref b79), .val (.int (own_vf (nar .boolean ex) (0 : Int64) (0 : Int64))), .unset, .unset, .unset] [(.int fw)])) target → Steps p.tables e below (T215.setTop (mkF m 208 #[.val (.int p1), .val (.long q2), .second, .val (.long q3), .second, .val (.long q4), .second, .val (.long q5), .second, .val (.int p6), .val (.int ex), .val (.int fc), .val (.int fw), .val (.long o1), .second, .val (.long l1), .second, .val (.long o2), .second, .val (.long l2), .second, .val (.ref b30), .val (.double (FP.i2d (p6 &&& (65535 : Int32)))), .second, .val (.ref b39), .val (.ref b55), .val (.ref b79), .val (.int (own_vf (nar .boolean ex) (0 : Int64) (0 : Int64))), .unset, .unset, .unset] [])) target := by
      intro target kt
      show Steps p.tables e below (T215.setTop (mkF m 208 #[.val (.int p1), .val (.long q2), .second, .val (.long q3), .second, .val (.long q4), .second, .val (.long q5), .second, .val (.int p6), .val (.int ex), .val (.int fc), .val (.int fw), .val (.long o1), .second, .val (.long l1), .second, .val (.long o2), .second, .val (.long l2), .second, .val (.ref b30), .val (.double (FP.i2d (p6 &&& (65535 : Int32)))), .second, .val (.ref b39), .val (.ref b55), .val (.ref b79), .val (.int (own_vf (nar .boolean ex) (0 : Int64) (0 : Int64))), .unset, .unset, .unset] [])) _
      refine XS.iload X215.here hx rfl (hb hby at_208) rfl ?_
      exact kt
    by_cases hwv : fw = (0 : Int32)
    · have sg235 : ∀ target, Steps p.tables e below (T215.setTop (mkF m 229 #[.val (.int p1), .val (.long q2), .second, .val (.long q3), .second, .val (.long q4), .second, .val (.long q5), .second, .val (.int p6), .val (.int ex), .val (.int fc), .val (.int fw), .val (.long o1), .second, .val (.long l1), .second, .val (.long o2), .second, .val (.long l2), .second, .val (.ref b30), .val (.double (FP.i2d (p6 &&& (65535 : Int32)))), .second, .val (.ref b39), .val (.ref b55), .val (.ref b79), .val (.int (own_vf (nar .boolean ex) (0 : Int64) (0 : Int64))), .unset, .unset, .unset] [(.int (lcmpW o1 (0 : Int64)))])) target → Steps p.tables e below (T215.setTop (mkF m 210 #[.val (.int p1), .val (.long q2), .second, .val (.long q3), .second, .val (.long q4), .second, .val (.long q5), .second, .val (.int p6), .val (.int ex), .val (.int fc), .val (.int fw), .val (.long o1), .second, .val (.long l1), .second, .val (.long o2), .second, .val (.long l2), .second, .val (.ref b30), .val (.double (FP.i2d (p6 &&& (65535 : Int32)))), .second, .val (.ref b39), .val (.ref b55), .val (.ref b79), .val (.int (own_vf (nar .boolean ex) (0 : Int64) (0 : Int64))), .unset, .unset, .unset] [(.int fw)])) target := by
        intro target kt
        show Steps p.tables e below (T215.setTop (mkF m 210 #[.val (.int p1), .val (.long q2), .second, .val (.long q3), .second, .val (.long q4), .second, .val (.long q5), .second, .val (.int p6), .val (.int ex), .val (.int fc), .val (.int fw), .val (.long o1), .second, .val (.long l1), .second, .val (.long o2), .second, .val (.long l2), .second, .val (.ref b30), .val (.double (FP.i2d (p6 &&& (65535 : Int32)))), .second, .val (.ref b39), .val (.ref b55), .val (.ref b79), .val (.int (own_vf (nar .boolean ex) (0 : Int64) (0 : Int64))), .unset, .unset, .unset] [(.int fw)])) _
        refine XS.ifYes X215.here hx rfl (pc0 := 210) (pc' := 220) rfl (hb hby at_210) rfl ((if0 _ _).trans (teq (hwv : fw = (0 : Int32))).1) (by decide) (by decide) ?_
        show Steps p.tables e below (T215.setTop (mkF m 220 #[.val (.int p1), .val (.long q2), .second, .val (.long q3), .second, .val (.long q4), .second, .val (.long q5), .second, .val (.int p6), .val (.int ex), .val (.int fc), .val (.int fw), .val (.long o1), .second, .val (.long l1), .second, .val (.long o2), .second, .val (.long l2), .second, .val (.ref b30), .val (.double (FP.i2d (p6 &&& (65535 : Int32)))), .second, .val (.ref b39), .val (.ref b55), .val (.ref b79), .val (.int (own_vf (nar .boolean ex) (0 : Int64) (0 : Int64))), .unset, .unset, .unset] [])) _
        refine XS.iload X215.here hx rfl (hb hby at_220) rfl ?_
        show Steps p.tables e below (T215.setTop (mkF m 222 #[.val (.int p1), .val (.long q2), .second, .val (.long q3), .second, .val (.long q4), .second, .val (.long q5), .second, .val (.int p6), .val (.int ex), .val (.int fc), .val (.int fw), .val (.long o1), .second, .val (.long l1), .second, .val (.long o2), .second, .val (.long l2), .second, .val (.ref b30), .val (.double (FP.i2d (p6 &&& (65535 : Int32)))), .second, .val (.ref b39), .val (.ref b55), .val (.ref b79), .val (.int (own_vf (nar .boolean ex) (0 : Int64) (0 : Int64))), .unset, .unset, .unset] [(.int fc)])) _
        refine XS.ifNo X215.here hx rfl (hb hby at_222) rfl ((if0 _ _).trans (feq (hc : ¬ (fc = (0 : Int32)))).1) ?_
        show Steps p.tables e below (T215.setTop (mkF m 225 #[.val (.int p1), .val (.long q2), .second, .val (.long q3), .second, .val (.long q4), .second, .val (.long q5), .second, .val (.int p6), .val (.int ex), .val (.int fc), .val (.int fw), .val (.long o1), .second, .val (.long l1), .second, .val (.long o2), .second, .val (.long l2), .second, .val (.ref b30), .val (.double (FP.i2d (p6 &&& (65535 : Int32)))), .second, .val (.ref b39), .val (.ref b55), .val (.ref b79), .val (.int (own_vf (nar .boolean ex) (0 : Int64) (0 : Int64))), .unset, .unset, .unset] [])) _
        refine XS.lload X215.here hx rfl (hb hby at_225) rfl ?_
        show Steps p.tables e below (T215.setTop (mkF m 227 #[.val (.int p1), .val (.long q2), .second, .val (.long q3), .second, .val (.long q4), .second, .val (.long q5), .second, .val (.int p6), .val (.int ex), .val (.int fc), .val (.int fw), .val (.long o1), .second, .val (.long l1), .second, .val (.long o2), .second, .val (.long l2), .second, .val (.ref b30), .val (.double (FP.i2d (p6 &&& (65535 : Int32)))), .second, .val (.ref b39), .val (.ref b55), .val (.ref b79), .val (.int (own_vf (nar .boolean ex) (0 : Int64) (0 : Int64))), .unset, .unset, .unset] [(.long o1)])) _
        refine XS.lconst X215.here hx rfl (hb hby at_227) ?_
        show Steps p.tables e below (T215.setTop (mkF m 228 #[.val (.int p1), .val (.long q2), .second, .val (.long q3), .second, .val (.long q4), .second, .val (.long q5), .second, .val (.int p6), .val (.int ex), .val (.int fc), .val (.int fw), .val (.long o1), .second, .val (.long l1), .second, .val (.long o2), .second, .val (.long l2), .second, .val (.ref b30), .val (.double (FP.i2d (p6 &&& (65535 : Int32)))), .second, .val (.ref b39), .val (.ref b55), .val (.ref b79), .val (.int (own_vf (nar .boolean ex) (0 : Int64) (0 : Int64))), .unset, .unset, .unset] [(.long (0 : Int64)), (.long o1)])) _
        refine XS.lcmp X215.here hx rfl (hb hby at_228) rfl ?_
        exact kt
      obtain ⟨s1, q_s1⟩ : ∃ z : Int32, z = (if (lcmpW o1 (0 : Int64)) = (0 : Int32) then (if (lcmpW l1 (0 : Int64)) = (0 : Int32) then (0 : Int32) else (1 : Int32)) else (1 : Int32)) := ⟨_, rfl⟩
      have sg239 : ∀ target, Steps p.tables e below (T215.setTop (mkF m 244 #[.val (.int p1), .val (.long q2), .second, .val (.long q3), .second, .val (.long q4), .second, .val (.long q5), .second, .val (.int p6), .val (.int ex), .val (.int fc), .val (.int fw), .val (.long o1), .second, .val (.long l1), .second, .val (.long o2), .second, .val (.long l2), .second, .val (.ref b30), .val (.double (FP.i2d (p6 &&& (65535 : Int32)))), .second, .val (.ref b39), .val (.ref b55), .val (.ref b79), .val (.int (own_vf (nar .boolean ex) (0 : Int64) (0 : Int64))), .unset, .unset, .unset] [(.int s1)])) target → Steps p.tables e below (T215.setTop (mkF m 229 #[.val (.int p1), .val (.long q2), .second, .val (.long q3), .second, .val (.long q4), .second, .val (.long q5), .second, .val (.int p6), .val (.int ex), .val (.int fc), .val (.int fw), .val (.long o1), .second, .val (.long l1), .second, .val (.long o2), .second, .val (.long l2), .second, .val (.ref b30), .val (.double (FP.i2d (p6 &&& (65535 : Int32)))), .second, .val (.ref b39), .val (.ref b55), .val (.ref b79), .val (.int (own_vf (nar .boolean ex) (0 : Int64) (0 : Int64))), .unset, .unset, .unset] [(.int (lcmpW o1 (0 : Int64)))])) target := by
        intro target kt
        by_cases hj237_229 : (lcmpW o1 (0 : Int64)) = (0 : Int32)
        · by_cases hj238_236 : (lcmpW l1 (0 : Int64)) = (0 : Int32)
          · rw [if_pos hj237_229, if_pos hj238_236] at q_s1
            rw [q_s1] at kt
            show Steps p.tables e below (T215.setTop (mkF m 229 #[.val (.int p1), .val (.long q2), .second, .val (.long q3), .second, .val (.long q4), .second, .val (.long q5), .second, .val (.int p6), .val (.int ex), .val (.int fc), .val (.int fw), .val (.long o1), .second, .val (.long l1), .second, .val (.long o2), .second, .val (.long l2), .second, .val (.ref b30), .val (.double (FP.i2d (p6 &&& (65535 : Int32)))), .second, .val (.ref b39), .val (.ref b55), .val (.ref b79), .val (.int (own_vf (nar .boolean ex) (0 : Int64) (0 : Int64))), .unset, .unset, .unset] [(.int (lcmpW o1 (0 : Int64)))])) _
            refine XS.ifNo X215.here hx rfl (hb hby at_229) rfl ((if0 _ _).trans (teq (hj237_229 : (lcmpW o1 (0 : Int64)) = (0 : Int32))).2) ?_
            show Steps p.tables e below (T215.setTop (mkF m 232 #[.val (.int p1), .val (.long q2), .second, .val (.long q3), .second, .val (.long q4), .second, .val (.long q5), .second, .val (.int p6), .val (.int ex), .val (.int fc), .val (.int fw), .val (.long o1), .second, .val (.long l1), .second, .val (.long o2), .second, .val (.long l2), .second, .val (.ref b30), .val (.double (FP.i2d (p6 &&& (65535 : Int32)))), .second, .val (.ref b39), .val (.ref b55), .val (.ref b79), .val (.int (own_vf (nar .boolean ex) (0 : Int64) (0 : Int64))), .unset, .unset, .unset] [])) _
            refine XS.lload X215.here hx rfl (hb hby at_232) rfl ?_
            show Steps p.tables e below (T215.setTop (mkF m 234 #[.val (.int p1), .val (.long q2), .second, .val (.long q3), .second, .val (.long q4), .second, .val (.long q5), .second, .val (.int p6), .val (.int ex), .val (.int fc), .val (.int fw), .val (.long o1), .second, .val (.long l1), .second, .val (.long o2), .second, .val (.long l2), .second, .val (.ref b30), .val (.double (FP.i2d (p6 &&& (65535 : Int32)))), .second, .val (.ref b39), .val (.ref b55), .val (.ref b79), .val (.int (own_vf (nar .boolean ex) (0 : Int64) (0 : Int64))), .unset, .unset, .unset] [(.long l1)])) _
            refine XS.lconst X215.here hx rfl (hb hby at_234) ?_
            show Steps p.tables e below (T215.setTop (mkF m 235 #[.val (.int p1), .val (.long q2), .second, .val (.long q3), .second, .val (.long q4), .second, .val (.long q5), .second, .val (.int p6), .val (.int ex), .val (.int fc), .val (.int fw), .val (.long o1), .second, .val (.long l1), .second, .val (.long o2), .second, .val (.long l2), .second, .val (.ref b30), .val (.double (FP.i2d (p6 &&& (65535 : Int32)))), .second, .val (.ref b39), .val (.ref b55), .val (.ref b79), .val (.int (own_vf (nar .boolean ex) (0 : Int64) (0 : Int64))), .unset, .unset, .unset] [(.long (0 : Int64)), (.long l1)])) _
            refine XS.lcmp X215.here hx rfl (hb hby at_235) rfl ?_
            show Steps p.tables e below (T215.setTop (mkF m 236 #[.val (.int p1), .val (.long q2), .second, .val (.long q3), .second, .val (.long q4), .second, .val (.long q5), .second, .val (.int p6), .val (.int ex), .val (.int fc), .val (.int fw), .val (.long o1), .second, .val (.long l1), .second, .val (.long o2), .second, .val (.long l2), .second, .val (.ref b30), .val (.double (FP.i2d (p6 &&& (65535 : Int32)))), .second, .val (.ref b39), .val (.ref b55), .val (.ref b79), .val (.int (own_vf (nar .boolean ex) (0 : Int64) (0 : Int64))), .unset, .unset, .unset] [(.int (lcmpW l1 (0 : Int64)))])) _
            refine XS.ifYes X215.here hx rfl (pc0 := 236) (pc' := 243) rfl (hb hby at_236) rfl ((if0 _ _).trans (teq (hj238_236 : (lcmpW l1 (0 : Int64)) = (0 : Int32))).1) (by decide) (by decide) ?_
            show Steps p.tables e below (T215.setTop (mkF m 243 #[.val (.int p1), .val (.long q2), .second, .val (.long q3), .second, .val (.long q4), .second, .val (.long q5), .second, .val (.int p6), .val (.int ex), .val (.int fc), .val (.int fw), .val (.long o1), .second, .val (.long l1), .second, .val (.long o2), .second, .val (.long l2), .second, .val (.ref b30), .val (.double (FP.i2d (p6 &&& (65535 : Int32)))), .second, .val (.ref b39), .val (.ref b55), .val (.ref b79), .val (.int (own_vf (nar .boolean ex) (0 : Int64) (0 : Int64))), .unset, .unset, .unset] [])) _
            refine XS.iconst X215.here hx rfl (hb hby at_243) ?_
            exact kt
          · rw [if_pos hj237_229, if_neg hj238_236] at q_s1
            rw [q_s1] at kt
            show Steps p.tables e below (T215.setTop (mkF m 229 #[.val (.int p1), .val (.long q2), .second, .val (.long q3), .second, .val (.long q4), .second, .val (.long q5), .second, .val (.int p6), .val (.int ex), .val (.int fc), .val (.int fw), .val (.long o1), .second, .val (.long l1), .second, .val (.long o2), .second, .val (.long l2), .second, .val (.ref b30), .val (.double (FP.i2d (p6 &&& (65535 : Int32)))), .second, .val (.ref b39), .val (.ref b55), .val (.ref b79), .val (.int (own_vf (nar .boolean ex) (0 : Int64) (0 : Int64))), .unset, .unset, .unset] [(.int (lcmpW o1 (0 : Int64)))])) _
            refine XS.ifNo X215.here hx rfl (hb hby at_229) rfl ((if0 _ _).trans (teq (hj237_229 : (lcmpW o1 (0 : Int64)) = (0 : Int32))).2) ?_
            show Steps p.tables e below (T215.setTop (mkF m 232 #[.val (.int p1), .val (.long q2), .second, .val (.long q3), .second, .val (.long q4), .second, .val (.long q5), .second, .val (.int p6), .val (.int ex), .val (.int fc), .val (.int fw), .val (.long o1), .second, .val (.long l1), .second, .val (.long o2), .second, .val (.long l2), .second, .val (.ref b30), .val (.double (FP.i2d (p6 &&& (65535 : Int32)))), .second, .val (.ref b39), .val (.ref b55), .val (.ref b79), .val (.int (own_vf (nar .boolean ex) (0 : Int64) (0 : Int64))), .unset, .unset, .unset] [])) _
            refine XS.lload X215.here hx rfl (hb hby at_232) rfl ?_
            show Steps p.tables e below (T215.setTop (mkF m 234 #[.val (.int p1), .val (.long q2), .second, .val (.long q3), .second, .val (.long q4), .second, .val (.long q5), .second, .val (.int p6), .val (.int ex), .val (.int fc), .val (.int fw), .val (.long o1), .second, .val (.long l1), .second, .val (.long o2), .second, .val (.long l2), .second, .val (.ref b30), .val (.double (FP.i2d (p6 &&& (65535 : Int32)))), .second, .val (.ref b39), .val (.ref b55), .val (.ref b79), .val (.int (own_vf (nar .boolean ex) (0 : Int64) (0 : Int64))), .unset, .unset, .unset] [(.long l1)])) _
            refine XS.lconst X215.here hx rfl (hb hby at_234) ?_
            show Steps p.tables e below (T215.setTop (mkF m 235 #[.val (.int p1), .val (.long q2), .second, .val (.long q3), .second, .val (.long q4), .second, .val (.long q5), .second, .val (.int p6), .val (.int ex), .val (.int fc), .val (.int fw), .val (.long o1), .second, .val (.long l1), .second, .val (.long o2), .second, .val (.long l2), .second, .val (.ref b30), .val (.double (FP.i2d (p6 &&& (65535 : Int32)))), .second, .val (.ref b39), .val (.ref b55), .val (.ref b79), .val (.int (own_vf (nar .boolean ex) (0 : Int64) (0 : Int64))), .unset, .unset, .unset] [(.long (0 : Int64)), (.long l1)])) _
            refine XS.lcmp X215.here hx rfl (hb hby at_235) rfl ?_
            show Steps p.tables e below (T215.setTop (mkF m 236 #[.val (.int p1), .val (.long q2), .second, .val (.long q3), .second, .val (.long q4), .second, .val (.long q5), .second, .val (.int p6), .val (.int ex), .val (.int fc), .val (.int fw), .val (.long o1), .second, .val (.long l1), .second, .val (.long o2), .second, .val (.long l2), .second, .val (.ref b30), .val (.double (FP.i2d (p6 &&& (65535 : Int32)))), .second, .val (.ref b39), .val (.ref b55), .val (.ref b79), .val (.int (own_vf (nar .boolean ex) (0 : Int64) (0 : Int64))), .unset, .unset, .unset] [(.int (lcmpW l1 (0 : Int64)))])) _
            refine XS.ifNo X215.here hx rfl (hb hby at_236) rfl ((if0 _ _).trans (feq (hj238_236 : ¬ ((lcmpW l1 (0 : Int64)) = (0 : Int32)))).1) ?_
            show Steps p.tables e below (T215.setTop (mkF m 239 #[.val (.int p1), .val (.long q2), .second, .val (.long q3), .second, .val (.long q4), .second, .val (.long q5), .second, .val (.int p6), .val (.int ex), .val (.int fc), .val (.int fw), .val (.long o1), .second, .val (.long l1), .second, .val (.long o2), .second, .val (.long l2), .second, .val (.ref b30), .val (.double (FP.i2d (p6 &&& (65535 : Int32)))), .second, .val (.ref b39), .val (.ref b55), .val (.ref b79), .val (.int (own_vf (nar .boolean ex) (0 : Int64) (0 : Int64))), .unset, .unset, .unset] [])) _
            refine XS.iconst X215.here hx rfl (hb hby at_239) ?_
            show Steps p.tables e below (T215.setTop (mkF m 240 #[.val (.int p1), .val (.long q2), .second, .val (.long q3), .second, .val (.long q4), .second, .val (.long q5), .second, .val (.int p6), .val (.int ex), .val (.int fc), .val (.int fw), .val (.long o1), .second, .val (.long l1), .second, .val (.long o2), .second, .val (.long l2), .second, .val (.ref b30), .val (.double (FP.i2d (p6 &&& (65535 : Int32)))), .second, .val (.ref b39), .val (.ref b55), .val (.ref b79), .val (.int (own_vf (nar .boolean ex) (0 : Int64) (0 : Int64))), .unset, .unset, .unset] [(.int (1 : Int32))])) _
            refine XS.goto X215.here hx rfl (pc0 := 240) (pc' := 244) rfl (hb hby at_240) (by decide) (by decide) ?_
            exact kt
        · rw [if_neg hj237_229] at q_s1
          rw [q_s1] at kt
          show Steps p.tables e below (T215.setTop (mkF m 229 #[.val (.int p1), .val (.long q2), .second, .val (.long q3), .second, .val (.long q4), .second, .val (.long q5), .second, .val (.int p6), .val (.int ex), .val (.int fc), .val (.int fw), .val (.long o1), .second, .val (.long l1), .second, .val (.long o2), .second, .val (.long l2), .second, .val (.ref b30), .val (.double (FP.i2d (p6 &&& (65535 : Int32)))), .second, .val (.ref b39), .val (.ref b55), .val (.ref b79), .val (.int (own_vf (nar .boolean ex) (0 : Int64) (0 : Int64))), .unset, .unset, .unset] [(.int (lcmpW o1 (0 : Int64)))])) _
          refine XS.ifYes X215.here hx rfl (pc0 := 229) (pc' := 239) rfl (hb hby at_229) rfl ((if0 _ _).trans (feq (hj237_229 : ¬ ((lcmpW o1 (0 : Int64)) = (0 : Int32)))).2) (by decide) (by decide) ?_
          show Steps p.tables e below (T215.setTop (mkF m 239 #[.val (.int p1), .val (.long q2), .second, .val (.long q3), .second, .val (.long q4), .second, .val (.long q5), .second, .val (.int p6), .val (.int ex), .val (.int fc), .val (.int fw), .val (.long o1), .second, .val (.long l1), .second, .val (.long o2), .second, .val (.long l2), .second, .val (.ref b30), .val (.double (FP.i2d (p6 &&& (65535 : Int32)))), .second, .val (.ref b39), .val (.ref b55), .val (.ref b79), .val (.int (own_vf (nar .boolean ex) (0 : Int64) (0 : Int64))), .unset, .unset, .unset] [])) _
          refine XS.iconst X215.here hx rfl (hb hby at_239) ?_
          show Steps p.tables e below (T215.setTop (mkF m 240 #[.val (.int p1), .val (.long q2), .second, .val (.long q3), .second, .val (.long q4), .second, .val (.long q5), .second, .val (.int p6), .val (.int ex), .val (.int fc), .val (.int fw), .val (.long o1), .second, .val (.long l1), .second, .val (.long o2), .second, .val (.long l2), .second, .val (.ref b30), .val (.double (FP.i2d (p6 &&& (65535 : Int32)))), .second, .val (.ref b39), .val (.ref b55), .val (.ref b79), .val (.int (own_vf (nar .boolean ex) (0 : Int64) (0 : Int64))), .unset, .unset, .unset] [(.int (1 : Int32))])) _
          refine XS.goto X215.here hx rfl (pc0 := 240) (pc' := 244) rfl (hb hby at_240) (by decide) (by decide) ?_
          exact kt
      have sg240 : ∀ target, Steps p.tables e below (T215.setTop (mkF m 274 #[.val (.int p1), .val (.long q2), .second, .val (.long q3), .second, .val (.long q4), .second, .val (.long q5), .second, .val (.int p6), .val (.int ex), .val (.int fc), .val (.int fw), .val (.long o1), .second, .val (.long l1), .second, .val (.long o2), .second, .val (.long l2), .second, .val (.ref b30), .val (.double (FP.i2d (p6 &&& (65535 : Int32)))), .second, .val (.ref b39), .val (.ref b55), .val (.ref b79), .val (.int (own_vf (nar .boolean ex) (0 : Int64) (0 : Int64))), .val (.int s1), .val (.int (0 : Int32)), .unset] [(.int ex)])) target → Steps p.tables e below (T215.setTop (mkF m 244 #[.val (.int p1), .val (.long q2), .second, .val (.long q3), .second, .val (.long q4), .second, .val (.long q5), .second, .val (.int p6), .val (.int ex), .val (.int fc), .val (.int fw), .val (.long o1), .second, .val (.long l1), .second, .val (.long o2), .second, .val (.long l2), .second, .val (.ref b30), .val (.double (FP.i2d (p6 &&& (65535 : Int32)))), .second, .val (.ref b39), .val (.ref b55), .val (.ref b79), .val (.int (own_vf (nar .boolean ex) (0 : Int64) (0 : Int64))), .unset, .unset, .unset] [(.int s1)])) target := by
        intro target kt
        show Steps p.tables e below (T215.setTop (mkF m 244 #[.val (.int p1), .val (.long q2), .second, .val (.long q3), .second, .val (.long q4), .second, .val (.long q5), .second, .val (.int p6), .val (.int ex), .val (.int fc), .val (.int fw), .val (.long o1), .second, .val (.long l1), .second, .val (.long o2), .second, .val (.long l2), .second, .val (.ref b30), .val (.double (FP.i2d (p6 &&& (65535 : Int32)))), .second, .val (.ref b39), .val (.ref b55), .val (.ref b79), .val (.int (own_vf (nar .boolean ex) (0 : Int64) (0 : Int64))), .unset, .unset, .unset] [(.int s1)])) _
        refine XS.istore X215.here hx rfl (hb hby at_244) rfl (l' := #[.val (.int p1), .val (.long q2), .second, .val (.long q3), .second, .val (.long q4), .second, .val (.long q5), .second, .val (.int p6), .val (.int ex), .val (.int fc), .val (.int fw), .val (.long o1), .second, .val (.long l1), .second, .val (.long o2), .second, .val (.long l2), .second, .val (.ref b30), .val (.double (FP.i2d (p6 &&& (65535 : Int32)))), .second, .val (.ref b39), .val (.ref b55), .val (.ref b79), .val (.int (own_vf (nar .boolean ex) (0 : Int64) (0 : Int64))), .val (.int s1), .unset, .unset]) rfl ?_
        show Steps p.tables e below (T215.setTop (mkF m 246 #[.val (.int p1), .val (.long q2), .second, .val (.long q3), .second, .val (.long q4), .second, .val (.long q5), .second, .val (.int p6), .val (.int ex), .val (.int fc), .val (.int fw), .val (.long o1), .second, .val (.long l1), .second, .val (.long o2), .second, .val (.long l2), .second, .val (.ref b30), .val (.double (FP.i2d (p6 &&& (65535 : Int32)))), .second, .val (.ref b39), .val (.ref b55), .val (.ref b79), .val (.int (own_vf (nar .boolean ex) (0 : Int64) (0 : Int64))), .val (.int s1), .unset, .unset] [])) _
        refine XS.iload X215.here hx rfl (hb hby at_246) rfl ?_
        show Steps p.tables e below (T215.setTop (mkF m 248 #[.val (.int p1), .val (.long q2), .second, .val (.long q3), .second, .val (.long q4), .second, .val (.long q5), .second, .val (.int p6), .val (.int ex), .val (.int fc), .val (.int fw), .val (.long o1), .second, .val (.long l1), .second, .val (.long o2), .second, .val (.long l2), .second, .val (.ref b30), .val (.double (FP.i2d (p6 &&& (65535 : Int32)))), .second, .val (.ref b39), .val (.ref b55), .val (.ref b79), .val (.int (own_vf (nar .boolean ex) (0 : Int64) (0 : Int64))), .val (.int s1), .unset, .unset] [(.int fw)])) _
        refine XS.ifYes X215.here hx rfl (pc0 := 248) (pc' := 269) rfl (hb hby at_248) rfl ((if0 _ _).trans (teq (hwv : fw = (0 : Int32))).1) (by decide) (by decide) ?_
        show Steps p.tables e below (T215.setTop (mkF m 269 #[.val (.int p1), .val (.long q2), .second, .val (.long q3), .second, .val (.long q4), .second, .val (.long q5), .second, .val (.int p6), .val (.int ex), .val (.int fc), .val (.int fw), .val (.long o1), .second, .val (.long l1), .second, .val (.long o2), .second, .val (.long l2), .second, .val (.ref b30), .val (.double (FP.i2d (p6 &&& (65535 : Int32)))), .second, .val (.ref b39), .val (.ref b55), .val (.ref b79), .val (.int (own_vf (nar .boolean ex) (0 : Int64) (0 : Int64))), .val (.int s1), .unset, .unset] [])) _
        refine XS.iconst X215.here hx rfl (hb hby at_269) ?_
        show Steps p.tables e below (T215.setTop (mkF m 270 #[.val (.int p1), .val (.long q2), .second, .val (.long q3), .second, .val (.long q4), .second, .val (.long q5), .second, .val (.int p6), .val (.int ex), .val (.int fc), .val (.int fw), .val (.long o1), .second, .val (.long l1), .second, .val (.long o2), .second, .val (.long l2), .second, .val (.ref b30), .val (.double (FP.i2d (p6 &&& (65535 : Int32)))), .second, .val (.ref b39), .val (.ref b55), .val (.ref b79), .val (.int (own_vf (nar .boolean ex) (0 : Int64) (0 : Int64))), .val (.int s1), .unset, .unset] [(.int (0 : Int32))])) _
        refine XS.istore X215.here hx rfl (hb hby at_270) rfl (l' := #[.val (.int p1), .val (.long q2), .second, .val (.long q3), .second, .val (.long q4), .second, .val (.long q5), .second, .val (.int p6), .val (.int ex), .val (.int fc), .val (.int fw), .val (.long o1), .second, .val (.long l1), .second, .val (.long o2), .second, .val (.long l2), .second, .val (.ref b30), .val (.double (FP.i2d (p6 &&& (65535 : Int32)))), .second, .val (.ref b39), .val (.ref b55), .val (.ref b79), .val (.int (own_vf (nar .boolean ex) (0 : Int64) (0 : Int64))), .val (.int s1), .val (.int (0 : Int32)), .unset]) rfl ?_
        show Steps p.tables e below (T215.setTop (mkF m 272 #[.val (.int p1), .val (.long q2), .second, .val (.long q3), .second, .val (.long q4), .second, .val (.long q5), .second, .val (.int p6), .val (.int ex), .val (.int fc), .val (.int fw), .val (.long o1), .second, .val (.long l1), .second, .val (.long o2), .second, .val (.long l2), .second, .val (.ref b30), .val (.double (FP.i2d (p6 &&& (65535 : Int32)))), .second, .val (.ref b39), .val (.ref b55), .val (.ref b79), .val (.int (own_vf (nar .boolean ex) (0 : Int64) (0 : Int64))), .val (.int s1), .val (.int (0 : Int32)), .unset] [])) _
        refine XS.iload X215.here hx rfl (hb hby at_272) rfl ?_
        exact kt
      obtain ⟨s3, q_s3⟩ : ∃ z : Int32, z = (if ex = (0 : Int32) then (0 : Int32) else (if s1 = (0 : Int32) then (0 : Int32) else (1 : Int32))) := ⟨_, rfl⟩
      have sg244 : ∀ target, Steps p.tables e below (T215.setTop (mkF m 292 #[.val (.int p1), .val (.long q2), .second, .val (.long q3), .second, .val (.long q4), .second, .val (.long q5), .second, .val (.int p6), .val (.int ex), .val (.int fc), .val (.int fw), .val (.long o1), .second, .val (.long l1), .second, .val (.long o2), .second, .val (.long l2), .second, .val (.ref b30), .val (.double (FP.i2d (p6 &&& (65535 : Int32)))), .second, .val (.ref b39), .val (.ref b55), .val (.ref b79), .val (.int (own_vf (nar .boolean ex) (0 : Int64) (0 : Int64))), .val (.int s1), .val (.int (0 : Int32)), .unset] [(.int s3)])) target → Steps p.tables e below (T215.setTop (mkF m 274 #[.val (.int p1), .val (.long q2), .second, .val (.long q3), .second, .val (.long q4), .second, .val (.long q5), .second, .val (.int p6), .val (.int ex), .val (.int fc), .val (.int fw), .val (.long o1), .second, .val (.long l1), .second, .val (.long o2), .second, .val (.long l2), .second, .val (.ref b30), .val (.double (FP.i2d (p6 &&& (65535 : Int32)))), .second, .val (.ref b39), .val (.ref b55), .val (.ref b79), .val (.int (own_vf (nar .boolean ex) (0 : Int64) (0 : Int64))), .val (.int s1), .val (.int (0 : Int32)), .unset] [(.int ex)])) target := by
        intro target kt
        by_cases hj242_274 : ex = (0 : Int32)
        · rw [if_pos hj242_274] at q_s3
          rw [q_s3] at kt
          show Steps p.tables e below (T215.setTop (mkF m 274 #[.val (.int p1), .val (.long q2), .second, .val (.long q3), .second, .val (.long q4), .second, .val (.long q5), .second, .val (.int p6), .val (.int ex), .val (.int fc), .val (.int fw), .val (.long o1), .second, .val (.long l1), .second, .val (.long o2), .second, .val (.long l2), .second, .val (.ref b30), .val (.double (FP.i2d (p6 &&& (65535 : Int32)))), .second, .val (.ref b39), .val (.ref b55), .val (.ref b79), .val (.int (own_vf (nar .boolean ex) (0 : Int64) (0 : Int64))), .val (.int s1), .val (.int (0 : Int32)), .unset] [(.int ex)])) _
          refine XS.ifYes X215.here hx rfl (pc0 := 274) (pc' := 291) rfl (hb hby at_274) rfl ((if0 _ _).trans (teq (hj242_274 : ex = (0 : Int32))).1) (by decide) (by decide) ?_
          show Steps p.tables e below (T215.setTop (mkF m 291 #[.val (.int p1), .val (.long q2), .second, .val (.long q3), .second, .val (.long q4), .second, .val (.long q5), .second, .val (.int p6), .val (.int ex), .val (.int fc), .val (.int fw), .val (.long o1), .second, .val (.long l1), .second, .val (.long o2), .second, .val (.long l2), .second, .val (.ref b30), .val (.double (FP.i2d (p6 &&& (65535 : Int32)))), .second, .val (.ref b39), .val (.ref b55), .val (.ref b79), .val (.int (own_vf (nar .boolean ex) (0 : Int64) (0 : Int64))), .val (.int s1), .val (.int (0 : Int32)), .unset] [])) _
          refine XS.iconst X215.here hx rfl (hb hby at_291) ?_
          exact kt
        · by_cases hj243_279 : s1 = (0 : Int32)
          · rw [if_neg hj242_274, if_pos hj243_279] at q_s3
            rw [q_s3] at kt
            show Steps p.tables e below (T215.setTop (mkF m 274 #[.val (.int p1), .val (.long q2), .second, .val (.long q3), .second, .val (.long q4), .second, .val (.long q5), .second, .val (.int p6), .val (.int ex), .val (.int fc), .val (.int fw), .val (.long o1), .second, .val (.long l1), .second, .val (.long o2), .second, .val (.long l2), .second, .val (.ref b30), .val (.double (FP.i2d (p6 &&& (65535 : Int32)))), .second, .val (.ref b39), .val (.ref b55), .val (.ref b79), .val (.int (own_vf (nar .boolean ex) (0 : Int64) (0 : Int64))), .val (.int s1), .val (.int (0 : Int32)), .unset] [(.int ex)])) _
            refine XS.ifNo X215.here hx rfl (hb hby at_274) rfl ((if0 _ _).trans (feq (hj242_274 : ¬ (ex = (0 : Int32)))).1) ?_
            show Steps p.tables e below (T215.setTop (mkF m 277 #[.val (.int p1), .val (.long q2), .second, .val (.long q3), .second, .val (.long q4), .second, .val (.long q5), .second, .val (.int p6), .val (.int ex), .val (.int fc), .val (.int fw), .val (.long o1), .second, .val (.long l1), .second, .val (.long o2), .second, .val (.long l2), .second, .val (.ref b30), .val (.double (FP.i2d (p6 &&& (65535 : Int32)))), .second, .val (.ref b39), .val (.ref b55), .val (.ref b79), .val (.int (own_vf (nar .boolean ex) (0 : Int64) (0 : Int64))), .val (.int s1), .val (.int (0 : Int32)), .unset] [])) _
            refine XS.iload X215.here hx rfl (hb hby at_277) rfl ?_
            show Steps p.tables e below (T215.setTop (mkF m 279 #[.val (.int p1), .val (.long q2), .second, .val (.long q3), .second, .val (.long q4), .second, .val (.long q5), .second, .val (.int p6), .val (.int ex), .val (.int fc), .val (.int fw), .val (.long o1), .second, .val (.long l1), .second, .val (.long o2), .second, .val (.long l2), .second, .val (.ref b30), .val (.double (FP.i2d (p6 &&& (65535 : Int32)))), .second, .val (.ref b39), .val (.ref b55), .val (.ref b79), .val (.int (own_vf (nar .boolean ex) (0 : Int64) (0 : Int64))), .val (.int s1), .val (.int (0 : Int32)), .unset] [(.int s1)])) _
            refine XS.ifNo X215.here hx rfl (hb hby at_279) rfl ((if0 _ _).trans (teq (hj243_279 : s1 = (0 : Int32))).2) ?_
            show Steps p.tables e below (T215.setTop (mkF m 282 #[.val (.int p1), .val (.long q2), .second, .val (.long q3), .second, .val (.long q4), .second, .val (.long q5), .second, .val (.int p6), .val (.int ex), .val (.int fc), .val (.int fw), .val (.long o1), .second, .val (.long l1), .second, .val (.long o2), .second, .val (.long l2), .second, .val (.ref b30), .val (.double (FP.i2d (p6 &&& (65535 : Int32)))), .second, .val (.ref b39), .val (.ref b55), .val (.ref b79), .val (.int (own_vf (nar .boolean ex) (0 : Int64) (0 : Int64))), .val (.int s1), .val (.int (0 : Int32)), .unset] [])) _
            refine XS.iload X215.here hx rfl (hb hby at_282) rfl ?_
            show Steps p.tables e below (T215.setTop (mkF m 284 #[.val (.int p1), .val (.long q2), .second, .val (.long q3), .second, .val (.long q4), .second, .val (.long q5), .second, .val (.int p6), .val (.int ex), .val (.int fc), .val (.int fw), .val (.long o1), .second, .val (.long l1), .second, .val (.long o2), .second, .val (.long l2), .second, .val (.ref b30), .val (.double (FP.i2d (p6 &&& (65535 : Int32)))), .second, .val (.ref b39), .val (.ref b55), .val (.ref b79), .val (.int (own_vf (nar .boolean ex) (0 : Int64) (0 : Int64))), .val (.int s1), .val (.int (0 : Int32)), .unset] [(.int (0 : Int32))])) _
            refine XS.ifYes X215.here hx rfl (pc0 := 284) (pc' := 291) rfl (hb hby at_284) rfl ((if0 _ _).trans (teq (by decide : (0 : Int32) = (0 : Int32))).1) (by decide) (by decide) ?_
            show Steps p.tables e below (T215.setTop (mkF m 291 #[.val (.int p1), .val (.long q2), .second, .val (.long q3), .second, .val (.long q4), .second, .val (.long q5), .second, .val (.int p6), .val (.int ex), .val (.int fc), .val (.int fw), .val (.long o1), .second, .val (.long l1), .second, .val (.long o2), .second, .val (.long l2), .second, .val (.ref b30), .val (.double (FP.i2d (p6 &&& (65535 : Int32)))), .second, .val (.ref b39), .val (.ref b55), .val (.ref b79), .val (.int (own_vf (nar .boolean ex) (0 : Int64) (0 : Int64))), .val (.int s1), .val (.int (0 : Int32)), .unset] [])) _
            refine XS.iconst X215.here hx rfl (hb hby at_291) ?_
            exact kt
          · rw [if_neg hj242_274, if_neg hj243_279] at q_s3
            rw [q_s3] at kt
            show Steps p.tables e below (T215.setTop (mkF m 274 #[.val (.int p1), .val (.long q2), .second, .val (.long q3), .second, .val (.long q4), .second, .val (.long q5), .second, .val (.int p6), .val (.int ex), .val (.int fc), .val (.int fw), .val (.long o1), .second, .val (.long l1), .second, .val (.long o2), .second, .val (.long l2), .second, .val (.ref b30), .val (.double (FP.i2d (p6 &&& (65535 : Int32)))), .second, .val (.ref b39), .val (.ref b55), .val (.ref b79), .val (.int (own_vf (nar .boolean ex) (0 : Int64) (0 : Int64))), .val (.int s1), .val (.int (0 : Int32)), .unset] [(.int ex)])) _
            refine XS.ifNo X215.here hx rfl (hb hby at_274) rfl ((if0 _ _).trans (feq (hj242_274 : ¬ (ex = (0 : Int32)))).1) ?_
            show Steps p.tables e below (T215.setTop (mkF m 277 #[.val (.int p1), .val (.long q2), .second, .val (.long q3), .second, .val (.long q4), .second, .val (.long q5), .second, .val (.int p6), .val (.int ex), .val (.int fc), .val (.int fw), .val (.long o1), .second, .val (.long l1), .second, .val (.long o2), .second, .val (.long l2), .second, .val (.ref b30), .val (.double (FP.i2d (p6 &&& (65535 : Int32)))), .second, .val (.ref b39), .val (.ref b55), .val (.ref b79), .val (.int (own_vf (nar .boolean ex) (0 : Int64) (0 : Int64))), .val (.int s1), .val (.int (0 : Int32)), .unset] [])) _
            refine XS.iload X215.here hx rfl (hb hby at_277) rfl ?_
            show Steps p.tables e below (T215.setTop (mkF m 279 #[.val (.int p1), .val (.long q2), .second, .val (.long q3), .second, .val (.long q4), .second, .val (.long q5), .second, .val (.int p6), .val (.int ex), .val (.int fc), .val (.int fw), .val (.long o1), .second, .val (.long l1), .second, .val (.long o2), .second, .val (.long l2), .second, .val (.ref b30), .val (.double (FP.i2d (p6 &&& (65535 : Int32)))), .second, .val (.ref b39), .val (.ref b55), .val (.ref b79), .val (.int (own_vf (nar .boolean ex) (0 : Int64) (0 : Int64))), .val (.int s1), .val (.int (0 : Int32)), .unset] [(.int s1)])) _
            refine XS.ifYes X215.here hx rfl (pc0 := 279) (pc' := 287) rfl (hb hby at_279) rfl ((if0 _ _).trans (feq (hj243_279 : ¬ (s1 = (0 : Int32)))).2) (by decide) (by decide) ?_
            show Steps p.tables e below (T215.setTop (mkF m 287 #[.val (.int p1), .val (.long q2), .second, .val (.long q3), .second, .val (.long q4), .second, .val (.long q5), .second, .val (.int p6), .val (.int ex), .val (.int fc), .val (.int fw), .val (.long o1), .second, .val (.long l1), .second, .val (.long o2), .second, .val (.long l2), .second, .val (.ref b30), .val (.double (FP.i2d (p6 &&& (65535 : Int32)))), .second, .val (.ref b39), .val (.ref b55), .val (.ref b79), .val (.int (own_vf (nar .boolean ex) (0 : Int64) (0 : Int64))), .val (.int s1), .val (.int (0 : Int32)), .unset] [])) _
            refine XS.iconst X215.here hx rfl (hb hby at_287) ?_
            show Steps p.tables e below (T215.setTop (mkF m 288 #[.val (.int p1), .val (.long q2), .second, .val (.long q3), .second, .val (.long q4), .second, .val (.long q5), .second, .val (.int p6), .val (.int ex), .val (.int fc), .val (.int fw), .val (.long o1), .second, .val (.long l1), .second, .val (.long o2), .second, .val (.long l2), .second, .val (.ref b30), .val (.double (FP.i2d (p6 &&& (65535 : Int32)))), .second, .val (.ref b39), .val (.ref b55), .val (.ref b79), .val (.int (own_vf (nar .boolean ex) (0 : Int64) (0 : Int64))), .val (.int s1), .val (.int (0 : Int32)), .unset] [(.int (1 : Int32))])) _
            refine XS.goto X215.here hx rfl (pc0 := 288) (pc' := 292) rfl (hb hby at_288) (by decide) (by decide) ?_
            exact kt
      have sg245 : ∀ target, Steps p.tables e below (T215.setTop (mkF m 301 #[.val (.int p1), .val (.long q2), .second, .val (.long q3), .second, .val (.long q4), .second, .val (.long q5), .second, .val (.int p6), .val (.int ex), .val (.int fc), .val (.int fw), .val (.long o1), .second, .val (.long l1), .second, .val (.long o2), .second, .val (.long l2), .second, .val (.ref b30), .val (.double (FP.i2d (p6 &&& (65535 : Int32)))), .second, .val (.ref b39), .val (.ref b55), .val (.ref b79), .val (.int (own_vf (nar .boolean ex) (0 : Int64) (0 : Int64))), .val (.int s1), .val (.int (0 : Int32)), .val (.int s3)] [(.ref b79)])) target → Steps p.tables e below (T215.setTop (mkF m 292 #[.val (.int p1), .val (.long q2), .second, .val (.long q3), .second, .val (.long q4), .second, .val (.long q5), .second, .val (.int p6), .val (.int ex), .val (.int fc), .val (.int fw), .val (.long o1), .second, .val (.long l1), .second, .val (.long o2), .second, .val (.long l2), .second, .val (.ref b30), .val (.double (FP.i2d (p6 &&& (65535 : Int32)))), .second, .val (.ref b39), .val (.ref b55), .val (.ref b79), .val (.int (own_vf (nar .boolean ex) (0 : Int64) (0 : Int64))), .val (.int s1), .val (.int (0 : Int32)), .unset] [(.int s3)])) target := by
        intro target kt
        show Steps p.tables e below (T215.setTop (mkF m 292 #[.val (.int p1), .val (.long q2), .second, .val (.long q3), .second, .val (.long q4), .second, .val (.long q5), .second, .val (.int p6), .val (.int ex), .val (.int fc), .val (.int fw), .val (.long o1), .second, .val (.long l1), .second, .val (.long o2), .second, .val (.long l2), .second, .val (.ref b30), .val (.double (FP.i2d (p6 &&& (65535 : Int32)))), .second, .val (.ref b39), .val (.ref b55), .val (.ref b79), .val (.int (own_vf (nar .boolean ex) (0 : Int64) (0 : Int64))), .val (.int s1), .val (.int (0 : Int32)), .unset] [(.int s3)])) _
        refine XS.istore X215.here hx rfl (hb hby at_292) rfl (l' := #[.val (.int p1), .val (.long q2), .second, .val (.long q3), .second, .val (.long q4), .second, .val (.long q5), .second, .val (.int p6), .val (.int ex), .val (.int fc), .val (.int fw), .val (.long o1), .second, .val (.long l1), .second, .val (.long o2), .second, .val (.long l2), .second, .val (.ref b30), .val (.double (FP.i2d (p6 &&& (65535 : Int32)))), .second, .val (.ref b39), .val (.ref b55), .val (.ref b79), .val (.int (own_vf (nar .boolean ex) (0 : Int64) (0 : Int64))), .val (.int s1), .val (.int (0 : Int32)), .val (.int s3)]) rfl ?_
        show Steps p.tables e below (T215.setTop (mkF m 294 #[.val (.int p1), .val (.long q2), .second, .val (.long q3), .second, .val (.long q4), .second, .val (.long q5), .second, .val (.int p6), .val (.int ex), .val (.int fc), .val (.int fw), .val (.long o1), .second, .val (.long l1), .second, .val (.long o2), .second, .val (.long l2), .second, .val (.ref b30), .val (.double (FP.i2d (p6 &&& (65535 : Int32)))), .second, .val (.ref b39), .val (.ref b55), .val (.ref b79), .val (.int (own_vf (nar .boolean ex) (0 : Int64) (0 : Int64))), .val (.int s1), .val (.int (0 : Int32)), .val (.int s3)] [])) _
        refine XS.iload X215.here hx rfl (hb hby at_294) rfl ?_
        show Steps p.tables e below (T215.setTop (mkF m 296 #[.val (.int p1), .val (.long q2), .second, .val (.long q3), .second, .val (.long q4), .second, .val (.long q5), .second, .val (.int p6), .val (.int ex), .val (.int fc), .val (.int fw), .val (.long o1), .second, .val (.long l1), .second, .val (.long o2), .second, .val (.long l2), .second, .val (.ref b30), .val (.double (FP.i2d (p6 &&& (65535 : Int32)))), .second, .val (.ref b39), .val (.ref b55), .val (.ref b79), .val (.int (own_vf (nar .boolean ex) (0 : Int64) (0 : Int64))), .val (.int s1), .val (.int (0 : Int32)), .val (.int s3)] [(.int (own_vf (nar .boolean ex) (0 : Int64) (0 : Int64)))])) _
        refine XS.ifNo X215.here hx rfl (hb hby at_296) rfl ((if0 _ _).trans (teq (own_fresh _ : (own_vf (nar .boolean ex) (0 : Int64) (0 : Int64)) = (0 : Int32))).2) ?_
        show Steps p.tables e below (T215.setTop (mkF m 299 #[.val (.int p1), .val (.long q2), .second, .val (.long q3), .second, .val (.long q4), .second, .val (.long q5), .second, .val (.int p6), .val (.int ex), .val (.int fc), .val (.int fw), .val (.long o1), .second, .val (.long l1), .second, .val (.long o2), .second, .val (.long l2), .second, .val (.ref b30), .val (.double (FP.i2d (p6 &&& (65535 : Int32)))), .second, .val (.ref b39), .val (.ref b55), .val (.ref b79), .val (.int (own_vf (nar .boolean ex) (0 : Int64) (0 : Int64))), .val (.int s1), .val (.int (0 : Int32)), .val (.int s3)] [])) _
        refine XS.aload X215.here hx rfl (hb hby at_299) rfl rfl ?_
        exact kt
      obtain ⟨cq246, kq246, q246a, q246b, q246c⟩ := isOf hZ rfl f229
      obtain ⟨_, _, ⟨T246, L246, k246, n246⟩, -, X246, ⟨Lc246, hQ246, l246, y246, z246⟩, st246⟩ := X215.virtualBack hx (y := (⟨"com/example/brelok/brelok/perf/Tally", "failedToExclude", "()Z"⟩ : MethodName)) (z := (⟨"com/example/brelok/brelok/perf/Tally", "failedToExclude", "()Z"⟩ : MethodName)) hown (mvT hZ (hw _ (List.mem_of_getElem? (i := 89) rfl))) (mvT hZ (hw _ (List.mem_of_getElem? (i := 90) rfl))) (notFace_of_selects (args := #[]) (mvT hZ (hw _ (List.mem_of_getElem? (i := 92) rfl)))) (mvT hZ (hw _ (List.mem_of_getElem? (i := 92) rfl))) (mvT hZ (hw _ (List.mem_of_getElem? (i := 91) rfl))) (by decide) (backOf (W := 0) (rm13 l Z a0 hw [] b79 (nar .boolean ex) ((0 : Int64) + o1) ((0 : Int64) + l1) T215.heap n0 Zs215 f230 f232 f233) hZ (hw _ (List.mem_of_getElem? (i := 93) rfl)) (hw _ (List.mem_of_getElem? (i := 25) rfl)) (by decide) (by decide)) q246a q246c (g := (mkF m 301 #[.val (.int p1), .val (.long q2), .second, .val (.long q3), .second, .val (.long q4), .second, .val (.long q5), .second, .val (.int p6), .val (.int ex), .val (.int fc), .val (.int fw), .val (.long o1), .second, .val (.long l1), .second, .val (.long o2), .second, .val (.long l2), .second, .val (.ref b30), .val (.double (FP.i2d (p6 &&& (65535 : Int32)))), .second, .val (.ref b39), .val (.ref b55), .val (.ref b79), .val (.int (own_vf (nar .boolean ex) (0 : Int64) (0 : Int64))), .val (.int s1), .val (.int (0 : Int32)), .val (.int s3)] [(.ref b79)])) rfl (by rw [hml]; rfl) (Steps.refl _) (argsL := []) (rest := []) (lenOf pd_4 rfl) rfl (by show 2 * 0 + _ ≤ _; exact Nat.le_of_eq rfl) (hb hby at_301) (fun _ _ => ⟨rfl, rfl, (by decide : 10 + 0 ≤ _), (by decide : 36 + 0 ≤ _)⟩)
      dsimp only [Pt.U, Pt.locs, Pt.cells, Pt.slots] at X246 l246 y246 z246 st246 hQ246
      subst l246 y246 z246
      obtain ⟨rfl, N246q, c246_0⟩ := hQ246
      have N246 := Fr.app N215 N246q
      have sg247 : ∀ target, Steps p.tables e below (T246.setTop (mkF m 314 #[.val (.int p1), .val (.long q2), .second, .val (.long q3), .second, .val (.long q4), .second, .val (.long q5), .second, .val (.int p6), .val (.int ex), .val (.int fc), .val (.int fw), .val (.long o1), .second, .val (.long l1), .second, .val (.long o2), .second, .val (.long l2), .second, .val (.ref b30), .val (.double (FP.i2d (p6 &&& (65535 : Int32)))), .second, .val (.ref b39), .val (.ref b55), .val (.ref b79), .val (.int (own_vf (nar .boolean ex) (0 : Int64) (0 : Int64))), .val (.int s1), .val (.int (0 : Int32)), .val (.int s3)] [(.int (1 : Int32))])) target → Steps p.tables e below (T246.setTop (mkF m 304 #[.val (.int p1), .val (.long q2), .second, .val (.long q3), .second, .val (.long q4), .second, .val (.long q5), .second, .val (.int p6), .val (.int ex), .val (.int fc), .val (.int fw), .val (.long o1), .second, .val (.long l1), .second, .val (.long o2), .second, .val (.long l2), .second, .val (.ref b30), .val (.double (FP.i2d (p6 &&& (65535 : Int32)))), .second, .val (.ref b39), .val (.ref b55), .val (.ref b79), .val (.int (own_vf (nar .boolean ex) (0 : Int64) (0 : Int64))), .val (.int s1), .val (.int (0 : Int32)), .val (.int s3)] [(.int (own_vf (nar .boolean ex) ((0 : Int64) + o1) ((0 : Int64) + l1)))])) target := by
        intro target kt
        show Steps p.tables e below (T246.setTop (mkF m 304 #[.val (.int p1), .val (.long q2), .second, .val (.long q3), .second, .val (.long q4), .second, .val (.long q5), .second, .val (.int p6), .val (.int ex), .val (.int fc), .val (.int fw), .val (.long o1), .second, .val (.long l1), .second, .val (.long o2), .second, .val (.long l2), .second, .val (.ref b30), .val (.double (FP.i2d (p6 &&& (65535 : Int32)))), .second, .val (.ref b39), .val (.ref b55), .val (.ref b79), .val (.int (own_vf (nar .boolean ex) (0 : Int64) (0 : Int64))), .val (.int s1), .val (.int (0 : Int32)), .val (.int s3)] [(.int (own_vf (nar .boolean ex) ((0 : Int64) + o1) ((0 : Int64) + l1)))])) _
        refine XS.iload X246.here hx rfl (hb hby at_304) rfl ?_
        show Steps p.tables e below (T246.setTop (mkF m 306 #[.val (.int p1), .val (.long q2), .second, .val (.long q3), .second, .val (.long q4), .second, .val (.long q5), .second, .val (.int p6), .val (.int ex), .val (.int fc), .val (.int fw), .val (.long o1), .second, .val (.long l1), .second, .val (.long o2), .second, .val (.long l2), .second, .val (.ref b30), .val (.double (FP.i2d (p6 &&& (65535 : Int32)))), .second, .val (.ref b39), .val (.ref b55), .val (.ref b79), .val (.int (own_vf (nar .boolean ex) (0 : Int64) (0 : Int64))), .val (.int s1), .val (.int (0 : Int32)), .val (.int s3)] [(.int s3), (.int (own_vf (nar .boolean ex) ((0 : Int64) + o1) ((0 : Int64) + l1)))])) _
        refine XS.icmpNo X246.here hx rfl (hb hby at_306) rfl (teq (by rw [q_s3, q_s1, hex]; exact own_one b_o1 b_l1 ex : (own_vf (nar .boolean ex) ((0 : Int64) + o1) ((0 : Int64) + l1)) = s3)).2 ?_
        show Steps p.tables e below (T246.setTop (mkF m 309 #[.val (.int p1), .val (.long q2), .second, .val (.long q3), .second, .val (.long q4), .second, .val (.long q5), .second, .val (.int p6), .val (.int ex), .val (.int fc), .val (.int fw), .val (.long o1), .second, .val (.long l1), .second, .val (.long o2), .second, .val (.long l2), .second, .val (.ref b30), .val (.double (FP.i2d (p6 &&& (65535 : Int32)))), .second, .val (.ref b39), .val (.ref b55), .val (.ref b79), .val (.int (own_vf (nar .boolean ex) (0 : Int64) (0 : Int64))), .val (.int s1), .val (.int (0 : Int32)), .val (.int s3)] [])) _
        refine XS.iconst X246.here hx rfl (hb hby at_309) ?_
        show Steps p.tables e below (T246.setTop (mkF m 310 #[.val (.int p1), .val (.long q2), .second, .val (.long q3), .second, .val (.long q4), .second, .val (.long q5), .second, .val (.int p6), .val (.int ex), .val (.int fc), .val (.int fw), .val (.long o1), .second, .val (.long l1), .second, .val (.long o2), .second, .val (.long l2), .second, .val (.ref b30), .val (.double (FP.i2d (p6 &&& (65535 : Int32)))), .second, .val (.ref b39), .val (.ref b55), .val (.ref b79), .val (.int (own_vf (nar .boolean ex) (0 : Int64) (0 : Int64))), .val (.int s1), .val (.int (0 : Int32)), .val (.int s3)] [(.int (1 : Int32))])) _
        refine XS.goto X246.here hx rfl (pc0 := 310) (pc' := 314) rfl (hb hby at_310) (by decide) (by decide) ?_
        exact kt
      obtain ⟨fs, hr, hrun, hended, hW, hsame⟩ := X246.leave (v := some (.int (1 : Int32))) (fun h => by rw [Bd.returns] at h; cases h)
      refine ⟨_, _, pre0 _ ?_, hrun, hended, _, _, rfl, ?_, ⟨_, rfl⟩, hW, hsame.mono (by decide) (by decide)⟩
      · show Steps p.tables e below (s₁.setTop (mkF m 0 #[.val (.int p1), .val (.long q2), .second, .val (.long q3), .second, .val (.long q4), .second, .val (.long q5), .second, .val (.int p6), .unset, .unset, .unset, .unset, .unset, .unset, .unset, .unset, .unset, .unset, .unset, .unset, .unset, .unset, .unset, .unset, .unset, .unset, .unset, .unset, .unset] [])) _
        refine sg1 _ ?_
        refine sg4 _ ?_
        refine sg5 _ ?_
        refine sg8 _ ?_
        refine sg9 _ ?_
        refine sg12 _ ?_
        refine sg13 _ ?_
        refine sg16 _ ?_
        refine sg17 _ ?_
        refine sg20 _ ?_
        refine sg21 _ ?_
        refine sg24 _ ?_
        refine sg25 _ ?_
        refine sg28 _ ?_
        refine sg29 _ ?_
        refine st30 _ ?_
        refine sg33 _ ?_
        refine st35 _ ?_
        refine sg38 _ ?_
        refine st39 _ ?_
        refine sg46 _ ?_
        refine st47.trans ?_
        refine sg54 _ ?_
        refine st55 _ ?_
        refine sg66 _ ?_
        refine st67.trans ?_
        refine sg78 _ ?_
        refine st79 _ ?_
        refine sg98 _ ?_
        refine st99 _ ?_
        refine sg121 _ ?_
        refine st122.trans ?_
        refine sg143 _ ?_
        refine st144.trans ?_
        refine sg167 _ ?_
        refine st168.trans ?_
        refine sg169 _ ?_
        refine sg214 _ ?_
        refine st215.trans ?_
        refine sg234 _ ?_
        refine sg235 _ ?_
        refine sg239 _ ?_
        refine sg240 _ ?_
        refine sg244 _ ?_
        refine sg245 _ ?_
        refine st246.trans ?_
        refine sg247 _ ?_
        show Steps p.tables e below (T246.setTop (mkF m 314 #[.val (.int p1), .val (.long q2), .second, .val (.long q3), .second, .val (.long q4), .second, .val (.long q5), .second, .val (.int p6), .val (.int ex), .val (.int fc), .val (.int fw), .val (.long o1), .second, .val (.long l1), .second, .val (.long o2), .second, .val (.long l2), .second, .val (.ref b30), .val (.double (FP.i2d (p6 &&& (65535 : Int32)))), .second, .val (.ref b39), .val (.ref b55), .val (.ref b79), .val (.int (own_vf (nar .boolean ex) (0 : Int64) (0 : Int64))), .val (.int s1), .val (.int (0 : Int32)), .val (.int s3)] [(.int (1 : Int32))])) _
        exact retN X246 hx (t := .boolean) Bd.returns (by simp) (hb hby at_314) hr
      · show Q_rm0 Z p1 q2 q3 q4 q5 p6 d0 kd G1 h0 n0 _ T246.heap _
        rw [c246_0]
        exact ⟨rfl, N246⟩
    · have sg248 : ∀ target, Steps p.tables e below (T215.setTop (mkF m 217 #[.val (.int p1), .val (.long q2), .second, .val (.long q3), .second, .val (.long q4), .second, .val (.long q5), .second, .val (.int p6), .val (.int ex), .val (.int fc), .val (.int fw), .val (.long o1), .second, .val (.long l1), .second, .val (.long o2), .second, .val (.long l2), .second, .val (.ref b30), .val (.double (FP.i2d (p6 &&& (65535 : Int32)))), .second, .val (.ref b39), .val (.ref b55), .val (.ref b79), .val (.int (own_vf (nar .boolean ex) (0 : Int64) (0 : Int64))), .unset, .unset, .unset] [(.ref b55), (.ref b79)])) target → Steps p.tables e below (T215.setTop (mkF m 210 #[.val (.int p1), .val (.long q2), .second, .val (.long q3), .second, .val (.long q4), .second, .val (.long q5), .second, .val (.int p6), .val (.int ex), .val (.int fc), .val (.int fw), .val (.long o1), .second, .val (.long l1), .second, .val (.long o2), .second, .val (.long l2), .second, .val (.ref b30), .val (.double (FP.i2d (p6 &&& (65535 : Int32)))), .second, .val (.ref b39), .val (.ref b55), .val (.ref b79), .val (.int (own_vf (nar .boolean ex) (0 : Int64) (0 : Int64))), .unset, .unset, .unset] [(.int fw)])) target := by
        intro target kt
        show Steps p.tables e below (T215.setTop (mkF m 210 #[.val (.int p1), .val (.long q2), .second, .val (.long q3), .second, .val (.long q4), .second, .val (.long q5), .second, .val (.int p6), .val (.int ex), .val (.int fc), .val (.int fw), .val (.long o1), .second, .val (.long l1), .second, .val (.long o2), .second, .val (.long l2), .second, .val (.ref b30), .val (.double (FP.i2d (p6 &&& (65535 : Int32)))), .second, .val (.ref b39), .val (.ref b55), .val (.ref b79), .val (.int (own_vf (nar .boolean ex) (0 : Int64) (0 : Int64))), .unset, .unset, .unset] [(.int fw)])) _
        refine XS.ifNo X215.here hx rfl (hb hby at_210) rfl ((if0 _ _).trans (feq (hwv : ¬ (fw = (0 : Int32)))).1) ?_
        show Steps p.tables e below (T215.setTop (mkF m 213 #[.val (.int p1), .val (.long q2), .second, .val (.long q3), .second, .val (.long q4), .second, .val (.long q5), .second, .val (.int p6), .val (.int ex), .val (.int fc), .val (.int fw), .val (.long o1), .second, .val (.long l1), .second, .val (.long o2), .second, .val (.long l2), .second, .val (.ref b30), .val (.double (FP.i2d (p6 &&& (65535 : Int32)))), .second, .val (.ref b39), .val (.ref b55), .val (.ref b79), .val (.int (own_vf (nar .boolean ex) (0 : Int64) (0 : Int64))), .unset, .unset, .unset] [])) _
        refine XS.aload X215.here hx rfl (hb hby at_213) rfl rfl ?_
        show Steps p.tables e below (T215.setTop (mkF m 215 #[.val (.int p1), .val (.long q2), .second, .val (.long q3), .second, .val (.long q4), .second, .val (.long q5), .second, .val (.int p6), .val (.int ex), .val (.int fc), .val (.int fw), .val (.long o1), .second, .val (.long l1), .second, .val (.long o2), .second, .val (.long l2), .second, .val (.ref b30), .val (.double (FP.i2d (p6 &&& (65535 : Int32)))), .second, .val (.ref b39), .val (.ref b55), .val (.ref b79), .val (.int (own_vf (nar .boolean ex) (0 : Int64) (0 : Int64))), .unset, .unset, .unset] [(.ref b79)])) _
        refine XS.aload X215.here hx rfl (hb hby at_215) rfl rfl ?_
        exact kt
      obtain ⟨cq249, kq249, q249a, q249b, q249c⟩ := isOf hZ rfl f229
      obtain ⟨_, _, ⟨T249, L249, k249, n249⟩, -, X249, ⟨Lc249, hQ249, l249, y249, z249⟩, st249⟩ := X215.virtualBack hx (y := (⟨"com/example/brelok/brelok/perf/Tally", "setWaiting", "(Lcom/example/brelok/brelok/perf/Timing$Measure;)V"⟩ : MethodName)) (z := (⟨"com/example/brelok/brelok/perf/Tally", "setWaiting", "(Lcom/example/brelok/brelok/perf/Timing$Measure;)V"⟩ : MethodName)) hown (mvT hZ (hw _ (List.mem_of_getElem? (i := 176) rfl))) (mvT hZ (hw _ (List.mem_of_getElem? (i := 177) rfl))) (notFace_of_selects (args := #[]) (mvT hZ (hw _ (List.mem_of_getElem? (i := 179) rfl)))) (mvT hZ (hw _ (List.mem_of_getElem? (i := 179) rfl))) (mvT hZ (hw _ (List.mem_of_getElem? (i := 178) rfl))) (by decide) (backOf (W := 0) (rm27 l Z a0 hw [] b79 b55 (nar .boolean ex) (0 : UInt64) ((0 : Int64) + o1) ((0 : Int64) + l1) (FP.i2d (p6 &&& (65535 : Int32))) o2 l2 T215.heap n0 Zs215 f229 f230 f231 f232 f233 g_b79 f222 f223 f224 f225 ne_b55_b79) hZ (hw _ (List.mem_of_getElem? (i := 180) rfl)) (hw _ (List.mem_of_getElem? (i := 25) rfl)) (by decide) (by decide)) q249a q249c (g := (mkF m 217 #[.val (.int p1), .val (.long q2), .second, .val (.long q3), .second, .val (.long q4), .second, .val (.long q5), .second, .val (.int p6), .val (.int ex), .val (.int fc), .val (.int fw), .val (.long o1), .second, .val (.long l1), .second, .val (.long o2), .second, .val (.long l2), .second, .val (.ref b30), .val (.double (FP.i2d (p6 &&& (65535 : Int32)))), .second, .val (.ref b39), .val (.ref b55), .val (.ref b79), .val (.int (own_vf (nar .boolean ex) (0 : Int64) (0 : Int64))), .unset, .unset, .unset] [(.ref b55), (.ref b79)])) rfl (by rw [hml]; rfl) (Steps.refl _) (argsL := [(.ref b55)]) (rest := []) (lenOf pd_11 rfl) rfl (by show 2 * 0 + _ ≤ _; exact Nat.le_of_eq rfl) (hb hby at_217) (fun _ _ => ⟨rfl, rfl, (by decide : 10 + 0 ≤ _), (by decide : 36 + 0 ≤ _)⟩)
      dsimp only [Pt.U, Pt.locs, Pt.cells, Pt.slots] at X249 l249 y249 z249 st249 hQ249
      subst l249 y249 z249
      obtain ⟨rfl, N249q, c249_0, c249_1, c249_2, c249_3, c249_4, c249_5⟩ := hQ249
      have N249 := Fr.app N215 N249q
      have Zs249 : n0 ≤ T249.heap.size := Nat.le_trans Zs215 c249_0.1
      have f250 : Old Z n0 T249.heap := f216.keep c249_0 (allS g_b79 all0)
      have f251 : Arv Z T249.heap b30 k30 .char (1 : Int32) [(.int (nar .char (own_ch p1)))] (.int (0 : Int32)) := f217.keep c249_0 (ninS ne_b30_b79 nin0)
      have f252 : Exa Z T249.heap b39 "com/example/brelok/brelok/perf/Timing$Measure" := f218.keep c249_0
      have f253 : Fld Z T249.heap b39 "com/example/brelok/brelok/perf/Timing$Measure" "figure" "D" (.double (FP.i2d (p6 &&& (65535 : Int32)))) := f219.keep c249_0 (ninS ne_b39_b79 nin0)
      have f254 : Fld Z T249.heap b39 "com/example/brelok/brelok/perf/Timing$Measure" "overlaps" "J" (.long o1) := f220.keep c249_0 (ninS ne_b39_b79 nin0)
      have f255 : Fld Z T249.heap b39 "com/example/brelok/brelok/perf/Timing$Measure" "lostUpdates" "J" (.long l1) := f221.keep c249_0 (ninS ne_b39_b79 nin0)
      have f256 : Exa Z T249.heap b55 "com/example/brelok/brelok/perf/Timing$Measure" := f222.keep c249_0
      have f257 : Fld Z T249.heap b55 "com/example/brelok/brelok/perf/Timing$Measure" "figure" "D" (.double (FP.i2d (p6 &&& (65535 : Int32)))) := f223.keep c249_0 (ninS ne_b55_b79 nin0)
      have f258 : Fld Z T249.heap b55 "com/example/brelok/brelok/perf/Timing$Measure" "overlaps" "J" (.long o2) := f224.keep c249_0 (ninS ne_b55_b79 nin0)
      have f259 : Fld Z T249.heap b55 "com/example/brelok/brelok/perf/Timing$Measure" "lostUpdates" "J" (.long l2) := f225.keep c249_0 (ninS ne_b55_b79 nin0)
      have f260 : Exa Z T249.heap b99 "java/lang/String" := f226.keep c249_0
      have f261 : Fld Z T249.heap b99 "java/lang/String" "coder" "B" (.int (0 : Int32)) := f227.keep c249_0 (ninS (Ne.symm ne_b79_b99) nin0)
      have f262 : Exa Z T249.heap lc_144 "java/util/ArrayList" := f228.keep c249_0
      have f263 : Exa Z T249.heap b79 "com/example/brelok/brelok/perf/Tally" := c249_1
      have f264 : Fld Z T249.heap b79 "com/example/brelok/brelok/perf/Tally" "excludes" "Z" (.int (nar .boolean ex)) := c249_2
      have f265 : Fld Z T249.heap b79 "com/example/brelok/brelok/perf/Tally" "waiting" "D" (.double (FP.i2d (p6 &&& (65535 : Int32)))) := c249_3
      have f266 : Fld Z T249.heap b79 "com/example/brelok/brelok/perf/Tally" "overlaps" "J" (.long (((0 : Int64) + o1) + o2)) := c249_4
      have f267 : Fld Z T249.heap b79 "com/example/brelok/brelok/perf/Tally" "lostUpdates" "J" (.long (((0 : Int64) + l1) + l2)) := c249_5
      have sg268 : ∀ target, Steps p.tables e below (T249.setTop (mkF m 229 #[.val (.int p1), .val (.long q2), .second, .val (.long q3), .second, .val (.long q4), .second, .val (.long q5), .second, .val (.int p6), .val (.int ex), .val (.int fc), .val (.int fw), .val (.long o1), .second, .val (.long l1), .second, .val (.long o2), .second, .val (.long l2), .second, .val (.ref b30), .val (.double (FP.i2d (p6 &&& (65535 : Int32)))), .second, .val (.ref b39), .val (.ref b55), .val (.ref b79), .val (.int (own_vf (nar .boolean ex) (0 : Int64) (0 : Int64))), .unset, .unset, .unset] [(.int (lcmpW o1 (0 : Int64)))])) target → Steps p.tables e below (T249.setTop (mkF m 220 #[.val (.int p1), .val (.long q2), .second, .val (.long q3), .second, .val (.long q4), .second, .val (.long q5), .second, .val (.int p6), .val (.int ex), .val (.int fc), .val (.int fw), .val (.long o1), .second, .val (.long l1), .second, .val (.long o2), .second, .val (.long l2), .second, .val (.ref b30), .val (.double (FP.i2d (p6 &&& (65535 : Int32)))), .second, .val (.ref b39), .val (.ref b55), .val (.ref b79), .val (.int (own_vf (nar .boolean ex) (0 : Int64) (0 : Int64))), .unset, .unset, .unset] [])) target := by
        intro target kt
        show Steps p.tables e below (T249.setTop (mkF m 220 #[.val (.int p1), .val (.long q2), .second, .val (.long q3), .second, .val (.long q4), .second, .val (.long q5), .second, .val (.int p6), .val (.int ex), .val (.int fc), .val (.int fw), .val (.long o1), .second, .val (.long l1), .second, .val (.long o2), .second, .val (.long l2), .second, .val (.ref b30), .val (.double (FP.i2d (p6 &&& (65535 : Int32)))), .second, .val (.ref b39), .val (.ref b55), .val (.ref b79), .val (.int (own_vf (nar .boolean ex) (0 : Int64) (0 : Int64))), .unset, .unset, .unset] [])) _
        refine XS.iload X249.here hx rfl (hb hby at_220) rfl ?_
        show Steps p.tables e below (T249.setTop (mkF m 222 #[.val (.int p1), .val (.long q2), .second, .val (.long q3), .second, .val (.long q4), .second, .val (.long q5), .second, .val (.int p6), .val (.int ex), .val (.int fc), .val (.int fw), .val (.long o1), .second, .val (.long l1), .second, .val (.long o2), .second, .val (.long l2), .second, .val (.ref b30), .val (.double (FP.i2d (p6 &&& (65535 : Int32)))), .second, .val (.ref b39), .val (.ref b55), .val (.ref b79), .val (.int (own_vf (nar .boolean ex) (0 : Int64) (0 : Int64))), .unset, .unset, .unset] [(.int fc)])) _
        refine XS.ifNo X249.here hx rfl (hb hby at_222) rfl ((if0 _ _).trans (feq (hc : ¬ (fc = (0 : Int32)))).1) ?_
        show Steps p.tables e below (T249.setTop (mkF m 225 #[.val (.int p1), .val (.long q2), .second, .val (.long q3), .second, .val (.long q4), .second, .val (.long q5), .second, .val (.int p6), .val (.int ex), .val (.int fc), .val (.int fw), .val (.long o1), .second, .val (.long l1), .second, .val (.long o2), .second, .val (.long l2), .second, .val (.ref b30), .val (.double (FP.i2d (p6 &&& (65535 : Int32)))), .second, .val (.ref b39), .val (.ref b55), .val (.ref b79), .val (.int (own_vf (nar .boolean ex) (0 : Int64) (0 : Int64))), .unset, .unset, .unset] [])) _
        refine XS.lload X249.here hx rfl (hb hby at_225) rfl ?_
        show Steps p.tables e below (T249.setTop (mkF m 227 #[.val (.int p1), .val (.long q2), .second, .val (.long q3), .second, .val (.long q4), .second, .val (.long q5), .second, .val (.int p6), .val (.int ex), .val (.int fc), .val (.int fw), .val (.long o1), .second, .val (.long l1), .second, .val (.long o2), .second, .val (.long l2), .second, .val (.ref b30), .val (.double (FP.i2d (p6 &&& (65535 : Int32)))), .second, .val (.ref b39), .val (.ref b55), .val (.ref b79), .val (.int (own_vf (nar .boolean ex) (0 : Int64) (0 : Int64))), .unset, .unset, .unset] [(.long o1)])) _
        refine XS.lconst X249.here hx rfl (hb hby at_227) ?_
        show Steps p.tables e below (T249.setTop (mkF m 228 #[.val (.int p1), .val (.long q2), .second, .val (.long q3), .second, .val (.long q4), .second, .val (.long q5), .second, .val (.int p6), .val (.int ex), .val (.int fc), .val (.int fw), .val (.long o1), .second, .val (.long l1), .second, .val (.long o2), .second, .val (.long l2), .second, .val (.ref b30), .val (.double (FP.i2d (p6 &&& (65535 : Int32)))), .second, .val (.ref b39), .val (.ref b55), .val (.ref b79), .val (.int (own_vf (nar .boolean ex) (0 : Int64) (0 : Int64))), .unset, .unset, .unset] [(.long (0 : Int64)), (.long o1)])) _
        refine XS.lcmp X249.here hx rfl (hb hby at_228) rfl ?_
        exact kt
      obtain ⟨s1, q_s1⟩ : ∃ z : Int32, z = (if (lcmpW o1 (0 : Int64)) = (0 : Int32) then (if (lcmpW l1 (0 : Int64)) = (0 : Int32) then (0 : Int32) else (1 : Int32)) else (1 : Int32)) := ⟨_, rfl⟩
      have sg272 : ∀ target, Steps p.tables e below (T249.setTop (mkF m 244 #[.val (.int p1), .val (.long q2), .second, .val (.long q3), .second, .val (.long q4), .second, .val (.long q5), .second, .val (.int p6), .val (.int ex), .val (.int fc), .val (.int fw), .val (.long o1), .second, .val (.long l1), .second, .val (.long o2), .second, .val (.long l2), .second, .val (.ref b30), .val (.double (FP.i2d (p6 &&& (65535 : Int32)))), .second, .val (.ref b39), .val (.ref b55), .val (.ref b79), .val (.int (own_vf (nar .boolean ex) (0 : Int64) (0 : Int64))), .unset, .unset, .unset] [(.int s1)])) target → Steps p.tables e below (T249.setTop (mkF m 229 #[.val (.int p1), .val (.long q2), .second, .val (.long q3), .second, .val (.long q4), .second, .val (.long q5), .second, .val (.int p6), .val (.int ex), .val (.int fc), .val (.int fw), .val (.long o1), .second, .val (.long l1), .second, .val (.long o2), .second, .val (.long l2), .second, .val (.ref b30), .val (.double (FP.i2d (p6 &&& (65535 : Int32)))), .second, .val (.ref b39), .val (.ref b55), .val (.ref b79), .val (.int (own_vf (nar .boolean ex) (0 : Int64) (0 : Int64))), .unset, .unset, .unset] [(.int (lcmpW o1 (0 : Int64)))])) target := by
        intro target kt
        by_cases hj270_229 : (lcmpW o1 (0 : Int64)) = (0 : Int32)
        · by_cases hj271_236 : (lcmpW l1 (0 : Int64)) = (0 : Int32)
          · rw [if_pos hj270_229, if_pos hj271_236] at q_s1
            rw [q_s1] at kt
            show Steps p.tables e below (T249.setTop (mkF m 229 #[.val (.int p1), .val (.long q2), .second, .val (.long q3), .second, .val (.long q4), .second, .val (.long q5), .second, .val (.int p6), .val (.int ex), .val (.int fc), .val (.int fw), .val (.long o1), .second, .val (.long l1), .second, .val (.long o2), .second, .val (.long l2), .second, .val (.ref b30), .val (.double (FP.i2d (p6 &&& (65535 : Int32)))), .second, .val (.ref b39), .val (.ref b55), .val (.ref b79), .val (.int (own_vf (nar .boolean ex) (0 : Int64) (0 : Int64))), .unset, .unset, .unset] [(.int (lcmpW o1 (0 : Int64)))])) _
            refine XS.ifNo X249.here hx rfl (hb hby at_229) rfl ((if0 _ _).trans (teq (hj270_229 : (lcmpW o1 (0 : Int64)) = (0 : Int32))).2) ?_
            show Steps p.tables e below (T249.setTop (mkF m 232 #[.val (.int p1), .val (.long q2), .second, .val (.long q3), .second, .val (.long q4), .second, .val (.long q5), .second, .val (.int p6), .val (.int ex), .val (.int fc), .val (.int fw), .val (.long o1), .second, .val (.long l1), .second, .val (.long o2), .second, .val (.long l2), .second, .val (.ref b30), .val (.double (FP.i2d (p6 &&& (65535 : Int32)))), .second, .val (.ref b39), .val (.ref b55), .val (.ref b79), .val (.int (own_vf (nar .boolean ex) (0 : Int64) (0 : Int64))), .unset, .unset, .unset] [])) _
            refine XS.lload X249.here hx rfl (hb hby at_232) rfl ?_
            show Steps p.tables e below (T249.setTop (mkF m 234 #[.val (.int p1), .val (.long q2), .second, .val (.long q3), .second, .val (.long q4), .second, .val (.long q5), .second, .val (.int p6), .val (.int ex), .val (.int fc), .val (.int fw), .val (.long o1), .second, .val (.long l1), .second, .val (.long o2), .second, .val (.long l2), .second, .val (.ref b30), .val (.double (FP.i2d (p6 &&& (65535 : Int32)))), .second, .val (.ref b39), .val (.ref b55), .val (.ref b79), .val (.int (own_vf (nar .boolean ex) (0 : Int64) (0 : Int64))), .unset, .unset, .unset] [(.long l1)])) _
            refine XS.lconst X249.here hx rfl (hb hby at_234) ?_
            show Steps p.tables e below (T249.setTop (mkF m 235 #[.val (.int p1), .val (.long q2), .second, .val (.long q3), .second, .val (.long q4), .second, .val (.long q5), .second, .val (.int p6), .val (.int ex), .val (.int fc), .val (.int fw), .val (.long o1), .second, .val (.long l1), .second, .val (.long o2), .second, .val (.long l2), .second, .val (.ref b30), .val (.double (FP.i2d (p6 &&& (65535 : Int32)))), .second, .val (.ref b39), .val (.ref b55), .val (.ref b79), .val (.int (own_vf (nar .boolean ex) (0 : Int64) (0 : Int64))), .unset, .unset, .unset] [(.long (0 : Int64)), (.long l1)])) _
            refine XS.lcmp X249.here hx rfl (hb hby at_235) rfl ?_
            show Steps p.tables e below (T249.setTop (mkF m 236 #[.val (.int p1), .val (.long q2), .second, .val (.long q3), .second, .val (.long q4), .second, .val (.long q5), .second, .val (.int p6), .val (.int ex), .val (.int fc), .val (.int fw), .val (.long o1), .second, .val (.long l1), .second, .val (.long o2), .second, .val (.long l2), .second, .val (.ref b30), .val (.double (FP.i2d (p6 &&& (65535 : Int32)))), .second, .val (.ref b39), .val (.ref b55), .val (.ref b79), .val (.int (own_vf (nar .boolean ex) (0 : Int64) (0 : Int64))), .unset, .unset, .unset] [(.int (lcmpW l1 (0 : Int64)))])) _
            refine XS.ifYes X249.here hx rfl (pc0 := 236) (pc' := 243) rfl (hb hby at_236) rfl ((if0 _ _).trans (teq (hj271_236 : (lcmpW l1 (0 : Int64)) = (0 : Int32))).1) (by decide) (by decide) ?_
            show Steps p.tables e below (T249.setTop (mkF m 243 #[.val (.int p1), .val (.long q2), .second, .val (.long q3), .second, .val (.long q4), .second, .val (.long q5), .second, .val (.int p6), .val (.int ex), .val (.int fc), .val (.int fw), .val (.long o1), .second, .val (.long l1), .second, .val (.long o2), .second, .val (.long l2), .second, .val (.ref b30), .val (.double (FP.i2d (p6 &&& (65535 : Int32)))), .second, .val (.ref b39), .val (.ref b55), .val (.ref b79), .val (.int (own_vf (nar .boolean ex) (0 : Int64) (0 : Int64))), .unset, .unset, .unset] [])) _
            refine XS.iconst X249.here hx rfl (hb hby at_243) ?_
            exact kt
          · rw [if_pos hj270_229, if_neg hj271_236] at q_s1
            rw [q_s1] at kt
            show Steps p.tables e below (T249.setTop (mkF m 229 #[.val (.int p1), .val (.long q2), .second, .val (.long q3), .second, .val (.long q4), .second, .val (.long q5), .second, .val (.int p6), .val (.int ex), .val (.int fc), .val (.int fw), .val (.long o1), .second, .val (.long l1), .second, .val (.long o2), .second, .val (.long l2), .second, .val (.ref b30), .val (.double (FP.i2d (p6 &&& (65535 : Int32)))), .second, .val (.ref b39), .val (.ref b55), .val (.ref b79), .val (.int (own_vf (nar .boolean ex) (0 : Int64) (0 : Int64))), .unset, .unset, .unset] [(.int (lcmpW o1 (0 : Int64)))])) _
            refine XS.ifNo X249.here hx rfl (hb hby at_229) rfl ((if0 _ _).trans (teq (hj270_229 : (lcmpW o1 (0 : Int64)) = (0 : Int32))).2) ?_
            show Steps p.tables e below (T249.setTop (mkF m 232 #[.val (.int p1), .val (.long q2), .second, .val (.long q3), .second, .val (.long q4), .second, .val (.long q5), .second, .val (.int p6), .val (.int ex), .val (.int fc), .val (.int fw), .val (.long o1), .second, .val (.long l1), .second, .val (.long o2), .second, .val (.long l2), .second, .val (.ref b30), .val (.double (FP.i2d (p6 &&& (65535 : Int32)))), .second, .val (.ref b39), .val (.ref b55), .val (.ref b79), .val (.int (own_vf (nar .boolean ex) (0 : Int64) (0 : Int64))), .unset, .unset, .unset] [])) _
            refine XS.lload X249.here hx rfl (hb hby at_232) rfl ?_
            show Steps p.tables e below (T249.setTop (mkF m 234 #[.val (.int p1), .val (.long q2), .second, .val (.long q3), .second, .val (.long q4), .second, .val (.long q5), .second, .val (.int p6), .val (.int ex), .val (.int fc), .val (.int fw), .val (.long o1), .second, .val (.long l1), .second, .val (.long o2), .second, .val (.long l2), .second, .val (.ref b30), .val (.double (FP.i2d (p6 &&& (65535 : Int32)))), .second, .val (.ref b39), .val (.ref b55), .val (.ref b79), .val (.int (own_vf (nar .boolean ex) (0 : Int64) (0 : Int64))), .unset, .unset, .unset] [(.long l1)])) _
            refine XS.lconst X249.here hx rfl (hb hby at_234) ?_
            show Steps p.tables e below (T249.setTop (mkF m 235 #[.val (.int p1), .val (.long q2), .second, .val (.long q3), .second, .val (.long q4), .second, .val (.long q5), .second, .val (.int p6), .val (.int ex), .val (.int fc), .val (.int fw), .val (.long o1), .second, .val (.long l1), .second, .val (.long o2), .second, .val (.long l2), .second, .val (.ref b30), .val (.double (FP.i2d (p6 &&& (65535 : Int32)))), .second, .val (.ref b39), .val (.ref b55), .val (.ref b79), .val (.int (own_vf (nar .boolean ex) (0 : Int64) (0 : Int64))), .unset, .unset, .unset] [(.long (0 : Int64)), (.long l1)])) _
            refine XS.lcmp X249.here hx rfl (hb hby at_235) rfl ?_
            show Steps p.tables e below (T249.setTop (mkF m 236 #[.val (.int p1), .val (.long q2), .second, .val (.long q3), .second, .val (.long q4), .second, .val (.long q5), .second, .val (.int p6), .val (.int ex), .val (.int fc), .val (.int fw), .val (.long o1), .second, .val (.long l1), .second, .val (.long o2), .second, .val (.long l2), .second, .val (.ref b30), .val (.double (FP.i2d (p6 &&& (65535 : Int32)))), .second, .val (.ref b39), .val (.ref b55), .val (.ref b79), .val (.int (own_vf (nar .boolean ex) (0 : Int64) (0 : Int64))), .unset, .unset, .unset] [(.int (lcmpW l1 (0 : Int64)))])) _
            refine XS.ifNo X249.here hx rfl (hb hby at_236) rfl ((if0 _ _).trans (feq (hj271_236 : ¬ ((lcmpW l1 (0 : Int64)) = (0 : Int32)))).1) ?_
            show Steps p.tables e below (T249.setTop (mkF m 239 #[.val (.int p1), .val (.long q2), .second, .val (.long q3), .second, .val (.long q4), .second, .val (.long q5), .second, .val (.int p6), .val (.int ex), .val (.int fc), .val (.int fw), .val (.long o1), .second, .val (.long l1), .second, .val (.long o2), .second, .val (.long l2), .second, .val (.ref b30), .val (.double (FP.i2d (p6 &&& (65535 : Int32)))), .second, .val (.ref b39), .val (.ref b55), .val (.ref b79), .val (.int (own_vf (nar .boolean ex) (0 : Int64) (0 : Int64))), .unset, .unset, .unset] [])) _
            refine XS.iconst X249.here hx rfl (hb hby at_239) ?_
            show Steps p.tables e below (T249.setTop (mkF m 240 #[.val (.int p1), .val (.long q2), .second, .val (.long q3), .second, .val (.long q4), .second, .val (.long q5), .second, .val (.int p6), .val (.int ex), .val (.int fc), .val (.int fw), .val (.long o1), .second, .val (.long l1), .second, .val (.long o2), .second, .val (.long l2), .second, .val (.ref b30), .val (.double (FP.i2d (p6 &&& (65535 : Int32)))), .second, .val (.ref b39), .val (.ref b55), .val (.ref b79), .val (.int (own_vf (nar .boolean ex) (0 : Int64) (0 : Int64))), .unset, .unset, .unset] [(.int (1 : Int32))])) _
            refine XS.goto X249.here hx rfl (pc0 := 240) (pc' := 244) rfl (hb hby at_240) (by decide) (by decide) ?_
            exact kt
        · rw [if_neg hj270_229] at q_s1
          rw [q_s1] at kt
          show Steps p.tables e below (T249.setTop (mkF m 229 #[.val (.int p1), .val (.long q2), .second, .val (.long q3), .second, .val (.long q4), .second, .val (.long q5), .second, .val (.int p6), .val (.int ex), .val (.int fc), .val (.int fw), .val (.long o1), .second, .val (.long l1), .second, .val (.long o2), .second, .val (.long l2), .second, .val (.ref b30), .val (.double (FP.i2d (p6 &&& (65535 : Int32)))), .second, .val (.ref b39), .val (.ref b55), .val (.ref b79), .val (.int (own_vf (nar .boolean ex) (0 : Int64) (0 : Int64))), .unset, .unset, .unset] [(.int (lcmpW o1 (0 : Int64)))])) _
          refine XS.ifYes X249.here hx rfl (pc0 := 229) (pc' := 239) rfl (hb hby at_229) rfl ((if0 _ _).trans (feq (hj270_229 : ¬ ((lcmpW o1 (0 : Int64)) = (0 : Int32)))).2) (by decide) (by decide) ?_
          show Steps p.tables e below (T249.setTop (mkF m 239 #[.val (.int p1), .val (.long q2), .second, .val (.long q3), .second, .val (.long q4), .second, .val (.long q5), .second, .val (.int p6), .val (.int ex), .val (.int fc), .val (.int fw), .val (.long o1), .second, .val (.long l1), .second, .val (.long o2), .second, .val (.long l2), .second, .val (.ref b30), .val (.double (FP.i2d (p6 &&& (65535 : Int32)))), .second, .val (.ref b39), .val (.ref b55), .val (.ref b79), .val (.int (own_vf (nar .boolean ex) (0 : Int64) (0 : Int64))), .unset, .unset, .unset] [])) _
          refine XS.iconst X249.here hx rfl (hb hby at_239) ?_
          show Steps p.tables e below (T249.setTop (mkF m 240 #[.val (.int p1), .val (.long q2), .second, .val (.long q3), .second, .val (.long q4), .second, .val (.long q5), .second, .val (.int p6), .val (.int ex), .val (.int fc), .val (.int fw), .val (.long o1), .second, .val (.long l1), .second, .val (.long o2), .second, .val (.long l2), .second, .val (.ref b30), .val (.double (FP.i2d (p6 &&& (65535 : Int32)))), .second, .val (.ref b39), .val (.ref b55), .val (.ref b79), .val (.int (own_vf (nar .boolean ex) (0 : Int64) (0 : Int64))), .unset, .unset, .unset] [(.int (1 : Int32))])) _
          refine XS.goto X249.here hx rfl (pc0 := 240) (pc' := 244) rfl (hb hby at_240) (by decide) (by decide) ?_
          exact kt
      have sg273 : ∀ target, Steps p.tables e below (T249.setTop (mkF m 255 #[.val (.int p1), .val (.long q2), .second, .val (.long q3), .second, .val (.long q4), .second, .val (.long q5), .second, .val (.int p6), .val (.int ex), .val (.int fc), .val (.int fw), .val (.long o1), .second, .val (.long l1), .second, .val (.long o2), .second, .val (.long l2), .second, .val (.ref b30), .val (.double (FP.i2d (p6 &&& (65535 : Int32)))), .second, .val (.ref b39), .val (.ref b55), .val (.ref b79), .val (.int (own_vf (nar .boolean ex) (0 : Int64) (0 : Int64))), .val (.int s1), .unset, .unset] [(.int (lcmpW o2 (0 : Int64)))])) target → Steps p.tables e below (T249.setTop (mkF m 244 #[.val (.int p1), .val (.long q2), .second, .val (.long q3), .second, .val (.long q4), .second, .val (.long q5), .second, .val (.int p6), .val (.int ex), .val (.int fc), .val (.int fw), .val (.long o1), .second, .val (.long l1), .second, .val (.long o2), .second, .val (.long l2), .second, .val (.ref b30), .val (.double (FP.i2d (p6 &&& (65535 : Int32)))), .second, .val (.ref b39), .val (.ref b55), .val (.ref b79), .val (.int (own_vf (nar .boolean ex) (0 : Int64) (0 : Int64))), .unset, .unset, .unset] [(.int s1)])) target := by
        intro target kt
        show Steps p.tables e below (T249.setTop (mkF m 244 #[.val (.int p1), .val (.long q2), .second, .val (.long q3), .second, .val (.long q4), .second, .val (.long q5), .second, .val (.int p6), .val (.int ex), .val (.int fc), .val (.int fw), .val (.long o1), .second, .val (.long l1), .second, .val (.long o2), .second, .val (.long l2), .second, .val (.ref b30), .val (.double (FP.i2d (p6 &&& (65535 : Int32)))), .second, .val (.ref b39), .val (.ref b55), .val (.ref b79), .val (.int (own_vf (nar .boolean ex) (0 : Int64) (0 : Int64))), .unset, .unset, .unset] [(.int s1)])) _
        refine XS.istore X249.here hx rfl (hb hby at_244) rfl (l' := #[.val (.int p1), .val (.long q2), .second, .val (.long q3), .second, .val (.long q4), .second, .val (.long q5), .second, .val (.int p6), .val (.int ex), .val (.int fc), .val (.int fw), .val (.long o1), .second, .val (.long l1), .second, .val (.long o2), .second, .val (.long l2), .second, .val (.ref b30), .val (.double (FP.i2d (p6 &&& (65535 : Int32)))), .second, .val (.ref b39), .val (.ref b55), .val (.ref b79), .val (.int (own_vf (nar .boolean ex) (0 : Int64) (0 : Int64))), .val (.int s1), .unset, .unset]) rfl ?_
        show Steps p.tables e below (T249.setTop (mkF m 246 #[.val (.int p1), .val (.long q2), .second, .val (.long q3), .second, .val (.long q4), .second, .val (.long q5), .second, .val (.int p6), .val (.int ex), .val (.int fc), .val (.int fw), .val (.long o1), .second, .val (.long l1), .second, .val (.long o2), .second, .val (.long l2), .second, .val (.ref b30), .val (.double (FP.i2d (p6 &&& (65535 : Int32)))), .second, .val (.ref b39), .val (.ref b55), .val (.ref b79), .val (.int (own_vf (nar .boolean ex) (0 : Int64) (0 : Int64))), .val (.int s1), .unset, .unset] [])) _
        refine XS.iload X249.here hx rfl (hb hby at_246) rfl ?_
        show Steps p.tables e below (T249.setTop (mkF m 248 #[.val (.int p1), .val (.long q2), .second, .val (.long q3), .second, .val (.long q4), .second, .val (.long q5), .second, .val (.int p6), .val (.int ex), .val (.int fc), .val (.int fw), .val (.long o1), .second, .val (.long l1), .second, .val (.long o2), .second, .val (.long l2), .second, .val (.ref b30), .val (.double (FP.i2d (p6 &&& (65535 : Int32)))), .second, .val (.ref b39), .val (.ref b55), .val (.ref b79), .val (.int (own_vf (nar .boolean ex) (0 : Int64) (0 : Int64))), .val (.int s1), .unset, .unset] [(.int fw)])) _
        refine XS.ifNo X249.here hx rfl (hb hby at_248) rfl ((if0 _ _).trans (feq (hwv : ¬ (fw = (0 : Int32)))).1) ?_
        show Steps p.tables e below (T249.setTop (mkF m 251 #[.val (.int p1), .val (.long q2), .second, .val (.long q3), .second, .val (.long q4), .second, .val (.long q5), .second, .val (.int p6), .val (.int ex), .val (.int fc), .val (.int fw), .val (.long o1), .second, .val (.long l1), .second, .val (.long o2), .second, .val (.long l2), .second, .val (.ref b30), .val (.double (FP.i2d (p6 &&& (65535 : Int32)))), .second, .val (.ref b39), .val (.ref b55), .val (.ref b79), .val (.int (own_vf (nar .boolean ex) (0 : Int64) (0 : Int64))), .val (.int s1), .unset, .unset] [])) _
        refine XS.lload X249.here hx rfl (hb hby at_251) rfl ?_
        show Steps p.tables e below (T249.setTop (mkF m 253 #[.val (.int p1), .val (.long q2), .second, .val (.long q3), .second, .val (.long q4), .second, .val (.long q5), .second, .val (.int p6), .val (.int ex), .val (.int fc), .val (.int fw), .val (.long o1), .second, .val (.long l1), .second, .val (.long o2), .second, .val (.long l2), .second, .val (.ref b30), .val (.double (FP.i2d (p6 &&& (65535 : Int32)))), .second, .val (.ref b39), .val (.ref b55), .val (.ref b79), .val (.int (own_vf (nar .boolean ex) (0 : Int64) (0 : Int64))), .val (.int s1), .unset, .unset] [(.long o2)])) _
        refine XS.lconst X249.here hx rfl (hb hby at_253) ?_
        show Steps p.tables e below (T249.setTop (mkF m 254 #[.val (.int p1), .val (.long q2), .second, .val (.long q3), .second, .val (.long q4), .second, .val (.long q5), .second, .val (.int p6), .val (.int ex), .val (.int fc), .val (.int fw), .val (.long o1), .second, .val (.long l1), .second, .val (.long o2), .second, .val (.long l2), .second, .val (.ref b30), .val (.double (FP.i2d (p6 &&& (65535 : Int32)))), .second, .val (.ref b39), .val (.ref b55), .val (.ref b79), .val (.int (own_vf (nar .boolean ex) (0 : Int64) (0 : Int64))), .val (.int s1), .unset, .unset] [(.long (0 : Int64)), (.long o2)])) _
        refine XS.lcmp X249.here hx rfl (hb hby at_254) rfl ?_
        exact kt
      obtain ⟨s2, q_s2⟩ : ∃ z : Int32, z = (if (lcmpW o2 (0 : Int64)) = (0 : Int32) then (if (lcmpW l2 (0 : Int64)) = (0 : Int32) then (0 : Int32) else (1 : Int32)) else (1 : Int32)) := ⟨_, rfl⟩
      have sg277 : ∀ target, Steps p.tables e below (T249.setTop (mkF m 270 #[.val (.int p1), .val (.long q2), .second, .val (.long q3), .second, .val (.long q4), .second, .val (.long q5), .second, .val (.int p6), .val (.int ex), .val (.int fc), .val (.int fw), .val (.long o1), .second, .val (.long l1), .second, .val (.long o2), .second, .val (.long l2), .second, .val (.ref b30), .val (.double (FP.i2d (p6 &&& (65535 : Int32)))), .second, .val (.ref b39), .val (.ref b55), .val (.ref b79), .val (.int (own_vf (nar .boolean ex) (0 : Int64) (0 : Int64))), .val (.int s1), .unset, .unset] [(.int s2)])) target → Steps p.tables e below (T249.setTop (mkF m 255 #[.val (.int p1), .val (.long q2), .second, .val (.long q3), .second, .val (.long q4), .second, .val (.long q5), .second, .val (.int p6), .val (.int ex), .val (.int fc), .val (.int fw), .val (.long o1), .second, .val (.long l1), .second, .val (.long o2), .second, .val (.long l2), .second, .val (.ref b30), .val (.double (FP.i2d (p6 &&& (65535 : Int32)))), .second, .val (.ref b39), .val (.ref b55), .val (.ref b79), .val (.int (own_vf (nar .boolean ex) (0 : Int64) (0 : Int64))), .val (.int s1), .unset, .unset] [(.int (lcmpW o2 (0 : Int64)))])) target := by
        intro target kt
        by_cases hj275_255 : (lcmpW o2 (0 : Int64)) = (0 : Int32)
        · by_cases hj276_262 : (lcmpW l2 (0 : Int64)) = (0 : Int32)
          · rw [if_pos hj275_255, if_pos hj276_262] at q_s2
            rw [q_s2] at kt
            show Steps p.tables e below (T249.setTop (mkF m 255 #[.val (.int p1), .val (.long q2), .second, .val (.long q3), .second, .val (.long q4), .second, .val (.long q5), .second, .val (.int p6), .val (.int ex), .val (.int fc), .val (.int fw), .val (.long o1), .second, .val (.long l1), .second, .val (.long o2), .second, .val (.long l2), .second, .val (.ref b30), .val (.double (FP.i2d (p6 &&& (65535 : Int32)))), .second, .val (.ref b39), .val (.ref b55), .val (.ref b79), .val (.int (own_vf (nar .boolean ex) (0 : Int64) (0 : Int64))), .val (.int s1), .unset, .unset] [(.int (lcmpW o2 (0 : Int64)))])) _
            refine XS.ifNo X249.here hx rfl (hb hby at_255) rfl ((if0 _ _).trans (teq (hj275_255 : (lcmpW o2 (0 : Int64)) = (0 : Int32))).2) ?_
            show Steps p.tables e below (T249.setTop (mkF m 258 #[.val (.int p1), .val (.long q2), .second, .val (.long q3), .second, .val (.long q4), .second, .val (.long q5), .second, .val (.int p6), .val (.int ex), .val (.int fc), .val (.int fw), .val (.long o1), .second, .val (.long l1), .second, .val (.long o2), .second, .val (.long l2), .second, .val (.ref b30), .val (.double (FP.i2d (p6 &&& (65535 : Int32)))), .second, .val (.ref b39), .val (.ref b55), .val (.ref b79), .val (.int (own_vf (nar .boolean ex) (0 : Int64) (0 : Int64))), .val (.int s1), .unset, .unset] [])) _
            refine XS.lload X249.here hx rfl (hb hby at_258) rfl ?_
            show Steps p.tables e below (T249.setTop (mkF m 260 #[.val (.int p1), .val (.long q2), .second, .val (.long q3), .second, .val (.long q4), .second, .val (.long q5), .second, .val (.int p6), .val (.int ex), .val (.int fc), .val (.int fw), .val (.long o1), .second, .val (.long l1), .second, .val (.long o2), .second, .val (.long l2), .second, .val (.ref b30), .val (.double (FP.i2d (p6 &&& (65535 : Int32)))), .second, .val (.ref b39), .val (.ref b55), .val (.ref b79), .val (.int (own_vf (nar .boolean ex) (0 : Int64) (0 : Int64))), .val (.int s1), .unset, .unset] [(.long l2)])) _
            refine XS.lconst X249.here hx rfl (hb hby at_260) ?_
            show Steps p.tables e below (T249.setTop (mkF m 261 #[.val (.int p1), .val (.long q2), .second, .val (.long q3), .second, .val (.long q4), .second, .val (.long q5), .second, .val (.int p6), .val (.int ex), .val (.int fc), .val (.int fw), .val (.long o1), .second, .val (.long l1), .second, .val (.long o2), .second, .val (.long l2), .second, .val (.ref b30), .val (.double (FP.i2d (p6 &&& (65535 : Int32)))), .second, .val (.ref b39), .val (.ref b55), .val (.ref b79), .val (.int (own_vf (nar .boolean ex) (0 : Int64) (0 : Int64))), .val (.int s1), .unset, .unset] [(.long (0 : Int64)), (.long l2)])) _
            refine XS.lcmp X249.here hx rfl (hb hby at_261) rfl ?_
            show Steps p.tables e below (T249.setTop (mkF m 262 #[.val (.int p1), .val (.long q2), .second, .val (.long q3), .second, .val (.long q4), .second, .val (.long q5), .second, .val (.int p6), .val (.int ex), .val (.int fc), .val (.int fw), .val (.long o1), .second, .val (.long l1), .second, .val (.long o2), .second, .val (.long l2), .second, .val (.ref b30), .val (.double (FP.i2d (p6 &&& (65535 : Int32)))), .second, .val (.ref b39), .val (.ref b55), .val (.ref b79), .val (.int (own_vf (nar .boolean ex) (0 : Int64) (0 : Int64))), .val (.int s1), .unset, .unset] [(.int (lcmpW l2 (0 : Int64)))])) _
            refine XS.ifYes X249.here hx rfl (pc0 := 262) (pc' := 269) rfl (hb hby at_262) rfl ((if0 _ _).trans (teq (hj276_262 : (lcmpW l2 (0 : Int64)) = (0 : Int32))).1) (by decide) (by decide) ?_
            show Steps p.tables e below (T249.setTop (mkF m 269 #[.val (.int p1), .val (.long q2), .second, .val (.long q3), .second, .val (.long q4), .second, .val (.long q5), .second, .val (.int p6), .val (.int ex), .val (.int fc), .val (.int fw), .val (.long o1), .second, .val (.long l1), .second, .val (.long o2), .second, .val (.long l2), .second, .val (.ref b30), .val (.double (FP.i2d (p6 &&& (65535 : Int32)))), .second, .val (.ref b39), .val (.ref b55), .val (.ref b79), .val (.int (own_vf (nar .boolean ex) (0 : Int64) (0 : Int64))), .val (.int s1), .unset, .unset] [])) _
            refine XS.iconst X249.here hx rfl (hb hby at_269) ?_
            exact kt
          · rw [if_pos hj275_255, if_neg hj276_262] at q_s2
            rw [q_s2] at kt
            show Steps p.tables e below (T249.setTop (mkF m 255 #[.val (.int p1), .val (.long q2), .second, .val (.long q3), .second, .val (.long q4), .second, .val (.long q5), .second, .val (.int p6), .val (.int ex), .val (.int fc), .val (.int fw), .val (.long o1), .second, .val (.long l1), .second, .val (.long o2), .second, .val (.long l2), .second, .val (.ref b30), .val (.double (FP.i2d (p6 &&& (65535 : Int32)))), .second, .val (.ref b39), .val (.ref b55), .val (.ref b79), .val (.int (own_vf (nar .boolean ex) (0 : Int64) (0 : Int64))), .val (.int s1), .unset, .unset] [(.int (lcmpW o2 (0 : Int64)))])) _
            refine XS.ifNo X249.here hx rfl (hb hby at_255) rfl ((if0 _ _).trans (teq (hj275_255 : (lcmpW o2 (0 : Int64)) = (0 : Int32))).2) ?_
            show Steps p.tables e below (T249.setTop (mkF m 258 #[.val (.int p1), .val (.long q2), .second, .val (.long q3), .second, .val (.long q4), .second, .val (.long q5), .second, .val (.int p6), .val (.int ex), .val (.int fc), .val (.int fw), .val (.long o1), .second, .val (.long l1), .second, .val (.long o2), .second, .val (.long l2), .second, .val (.ref b30), .val (.double (FP.i2d (p6 &&& (65535 : Int32)))), .second, .val (.ref b39), .val (.ref b55), .val (.ref b79), .val (.int (own_vf (nar .boolean ex) (0 : Int64) (0 : Int64))), .val (.int s1), .unset, .unset] [])) _
            refine XS.lload X249.here hx rfl (hb hby at_258) rfl ?_
            show Steps p.tables e below (T249.setTop (mkF m 260 #[.val (.int p1), .val (.long q2), .second, .val (.long q3), .second, .val (.long q4), .second, .val (.long q5), .second, .val (.int p6), .val (.int ex), .val (.int fc), .val (.int fw), .val (.long o1), .second, .val (.long l1), .second, .val (.long o2), .second, .val (.long l2), .second, .val (.ref b30), .val (.double (FP.i2d (p6 &&& (65535 : Int32)))), .second, .val (.ref b39), .val (.ref b55), .val (.ref b79), .val (.int (own_vf (nar .boolean ex) (0 : Int64) (0 : Int64))), .val (.int s1), .unset, .unset] [(.long l2)])) _
            refine XS.lconst X249.here hx rfl (hb hby at_260) ?_
            show Steps p.tables e below (T249.setTop (mkF m 261 #[.val (.int p1), .val (.long q2), .second, .val (.long q3), .second, .val (.long q4), .second, .val (.long q5), .second, .val (.int p6), .val (.int ex), .val (.int fc), .val (.int fw), .val (.long o1), .second, .val (.long l1), .second, .val (.long o2), .second, .val (.long l2), .second, .val (.ref b30), .val (.double (FP.i2d (p6 &&& (65535 : Int32)))), .second, .val (.ref b39), .val (.ref b55), .val (.ref b79), .val (.int (own_vf (nar .boolean ex) (0 : Int64) (0 : Int64))), .val (.int s1), .unset, .unset] [(.long (0 : Int64)), (.long l2)])) _
            refine XS.lcmp X249.here hx rfl (hb hby at_261) rfl ?_
            show Steps p.tables e below (T249.setTop (mkF m 262 #[.val (.int p1), .val (.long q2), .second, .val (.long q3), .second, .val (.long q4), .second, .val (.long q5), .second, .val (.int p6), .val (.int ex), .val (.int fc), .val (.int fw), .val (.long o1), .second, .val (.long l1), .second, .val (.long o2), .second, .val (.long l2), .second, .val (.ref b30), .val (.double (FP.i2d (p6 &&& (65535 : Int32)))), .second, .val (.ref b39), .val (.ref b55), .val (.ref b79), .val (.int (own_vf (nar .boolean ex) (0 : Int64) (0 : Int64))), .val (.int s1), .unset, .unset] [(.int (lcmpW l2 (0 : Int64)))])) _
            refine XS.ifNo X249.here hx rfl (hb hby at_262) rfl ((if0 _ _).trans (feq (hj276_262 : ¬ ((lcmpW l2 (0 : Int64)) = (0 : Int32)))).1) ?_
            show Steps p.tables e below (T249.setTop (mkF m 265 #[.val (.int p1), .val (.long q2), .second, .val (.long q3), .second, .val (.long q4), .second, .val (.long q5), .second, .val (.int p6), .val (.int ex), .val (.int fc), .val (.int fw), .val (.long o1), .second, .val (.long l1), .second, .val (.long o2), .second, .val (.long l2), .second, .val (.ref b30), .val (.double (FP.i2d (p6 &&& (65535 : Int32)))), .second, .val (.ref b39), .val (.ref b55), .val (.ref b79), .val (.int (own_vf (nar .boolean ex) (0 : Int64) (0 : Int64))), .val (.int s1), .unset, .unset] [])) _
            refine XS.iconst X249.here hx rfl (hb hby at_265) ?_
            show Steps p.tables e below (T249.setTop (mkF m 266 #[.val (.int p1), .val (.long q2), .second, .val (.long q3), .second, .val (.long q4), .second, .val (.long q5), .second, .val (.int p6), .val (.int ex), .val (.int fc), .val (.int fw), .val (.long o1), .second, .val (.long l1), .second, .val (.long o2), .second, .val (.long l2), .second, .val (.ref b30), .val (.double (FP.i2d (p6 &&& (65535 : Int32)))), .second, .val (.ref b39), .val (.ref b55), .val (.ref b79), .val (.int (own_vf (nar .boolean ex) (0 : Int64) (0 : Int64))), .val (.int s1), .unset, .unset] [(.int (1 : Int32))])) _
            refine XS.goto X249.here hx rfl (pc0 := 266) (pc' := 270) rfl (hb hby at_266) (by decide) (by decide) ?_
            exact kt
        · rw [if_neg hj275_255] at q_s2
          rw [q_s2] at kt
          show Steps p.tables e below (T249.setTop (mkF m 255 #[.val (.int p1), .val (.long q2), .second, .val (.long q3), .second, .val (.long q4), .second, .val (.long q5), .second, .val (.int p6), .val (.int ex), .val (.int fc), .val (.int fw), .val (.long o1), .second, .val (.long l1), .second, .val (.long o2), .second, .val (.long l2), .second, .val (.ref b30), .val (.double (FP.i2d (p6 &&& (65535 : Int32)))), .second, .val (.ref b39), .val (.ref b55), .val (.ref b79), .val (.int (own_vf (nar .boolean ex) (0 : Int64) (0 : Int64))), .val (.int s1), .unset, .unset] [(.int (lcmpW o2 (0 : Int64)))])) _
          refine XS.ifYes X249.here hx rfl (pc0 := 255) (pc' := 265) rfl (hb hby at_255) rfl ((if0 _ _).trans (feq (hj275_255 : ¬ ((lcmpW o2 (0 : Int64)) = (0 : Int32)))).2) (by decide) (by decide) ?_
          show Steps p.tables e below (T249.setTop (mkF m 265 #[.val (.int p1), .val (.long q2), .second, .val (.long q3), .second, .val (.long q4), .second, .val (.long q5), .second, .val (.int p6), .val (.int ex), .val (.int fc), .val (.int fw), .val (.long o1), .second, .val (.long l1), .second, .val (.long o2), .second, .val (.long l2), .second, .val (.ref b30), .val (.double (FP.i2d (p6 &&& (65535 : Int32)))), .second, .val (.ref b39), .val (.ref b55), .val (.ref b79), .val (.int (own_vf (nar .boolean ex) (0 : Int64) (0 : Int64))), .val (.int s1), .unset, .unset] [])) _
          refine XS.iconst X249.here hx rfl (hb hby at_265) ?_
          show Steps p.tables e below (T249.setTop (mkF m 266 #[.val (.int p1), .val (.long q2), .second, .val (.long q3), .second, .val (.long q4), .second, .val (.long q5), .second, .val (.int p6), .val (.int ex), .val (.int fc), .val (.int fw), .val (.long o1), .second, .val (.long l1), .second, .val (.long o2), .second, .val (.long l2), .second, .val (.ref b30), .val (.double (FP.i2d (p6 &&& (65535 : Int32)))), .second, .val (.ref b39), .val (.ref b55), .val (.ref b79), .val (.int (own_vf (nar .boolean ex) (0 : Int64) (0 : Int64))), .val (.int s1), .unset, .unset] [(.int (1 : Int32))])) _
          refine XS.goto X249.here hx rfl (pc0 := 266) (pc' := 270) rfl (hb hby at_266) (by decide) (by decide) ?_
          exact kt
      have sg278 : ∀ target, Steps p.tables e below (T249.setTop (mkF m 274 #[.val (.int p1), .val (.long q2), .second, .val (.long q3), .second, .val (.long q4), .second, .val (.long q5), .second, .val (.int p6), .val (.int ex), .val (.int fc), .val (.int fw), .val (.long o1), .second, .val (.long l1), .second, .val (.long o2), .second, .val (.long l2), .second, .val (.ref b30), .val (.double (FP.i2d (p6 &&& (65535 : Int32)))), .second, .val (.ref b39), .val (.ref b55), .val (.ref b79), .val (.int (own_vf (nar .boolean ex) (0 : Int64) (0 : Int64))), .val (.int s1), .val (.int s2), .unset] [(.int ex)])) target → Steps p.tables e below (T249.setTop (mkF m 270 #[.val (.int p1), .val (.long q2), .second, .val (.long q3), .second, .val (.long q4), .second, .val (.long q5), .second, .val (.int p6), .val (.int ex), .val (.int fc), .val (.int fw), .val (.long o1), .second, .val (.long l1), .second, .val (.long o2), .second, .val (.long l2), .second, .val (.ref b30), .val (.double (FP.i2d (p6 &&& (65535 : Int32)))), .second, .val (.ref b39), .val (.ref b55), .val (.ref b79), .val (.int (own_vf (nar .boolean ex) (0 : Int64) (0 : Int64))), .val (.int s1), .unset, .unset] [(.int s2)])) target := by
        intro target kt
        show Steps p.tables e below (T249.setTop (mkF m 270 #[.val (.int p1), .val (.long q2), .second, .val (.long q3), .second, .val (.long q4), .second, .val (.long q5), .second, .val (.int p6), .val (.int ex), .val (.int fc), .val (.int fw), .val (.long o1), .second, .val (.long l1), .second, .val (.long o2), .second, .val (.long l2), .second, .val (.ref b30), .val (.double (FP.i2d (p6 &&& (65535 : Int32)))), .second, .val (.ref b39), .val (.ref b55), .val (.ref b79), .val (.int (own_vf (nar .boolean ex) (0 : Int64) (0 : Int64))), .val (.int s1), .unset, .unset] [(.int s2)])) _
        refine XS.istore X249.here hx rfl (hb hby at_270) rfl (l' := #[.val (.int p1), .val (.long q2), .second, .val (.long q3), .second, .val (.long q4), .second, .val (.long q5), .second, .val (.int p6), .val (.int ex), .val (.int fc), .val (.int fw), .val (.long o1), .second, .val (.long l1), .second, .val (.long o2), .second, .val (.long l2), .second, .val (.ref b30), .val (.double (FP.i2d (p6 &&& (65535 : Int32)))), .second, .val (.ref b39), .val (.ref b55), .val (.ref b79), .val (.int (own_vf (nar .boolean ex) (0 : Int64) (0 : Int64))), .val (.int s1), .val (.int s2), .unset]) rfl ?_
        show Steps p.tables e below (T249.setTop (mkF m 272 #[.val (.int p1), .val (.long q2), .second, .val (.long q3), .second, .val (.long q4), .second, .val (.long q5), .second, .val (.int p6), .val (.int ex), .val (.int fc), .val (.int fw), .val (.long o1), .second, .val (.long l1), .second, .val (.long o2), .second, .val (.long l2), .second, .val (.ref b30), .val (.double (FP.i2d (p6 &&& (65535 : Int32)))), .second, .val (.ref b39), .val (.ref b55), .val (.ref b79), .val (.int (own_vf (nar .boolean ex) (0 : Int64) (0 : Int64))), .val (.int s1), .val (.int s2), .unset] [])) _
        refine XS.iload X249.here hx rfl (hb hby at_272) rfl ?_
        exact kt
      obtain ⟨s3, q_s3⟩ : ∃ z : Int32, z = (if ex = (0 : Int32) then (0 : Int32) else (if s1 = (0 : Int32) then (if s2 = (0 : Int32) then (0 : Int32) else (1 : Int32)) else (1 : Int32))) := ⟨_, rfl⟩
      have sg283 : ∀ target, Steps p.tables e below (T249.setTop (mkF m 292 #[.val (.int p1), .val (.long q2), .second, .val (.long q3), .second, .val (.long q4), .second, .val (.long q5), .second, .val (.int p6), .val (.int ex), .val (.int fc), .val (.int fw), .val (.long o1), .second, .val (.long l1), .second, .val (.long o2), .second, .val (.long l2), .second, .val (.ref b30), .val (.double (FP.i2d (p6 &&& (65535 : Int32)))), .second, .val (.ref b39), .val (.ref b55), .val (.ref b79), .val (.int (own_vf (nar .boolean ex) (0 : Int64) (0 : Int64))), .val (.int s1), .val (.int s2), .unset] [(.int s3)])) target → Steps p.tables e below (T249.setTop (mkF m 274 #[.val (.int p1), .val (.long q2), .second, .val (.long q3), .second, .val (.long q4), .second, .val (.long q5), .second, .val (.int p6), .val (.int ex), .val (.int fc), .val (.int fw), .val (.long o1), .second, .val (.long l1), .second, .val (.long o2), .second, .val (.long l2), .second, .val (.ref b30), .val (.double (FP.i2d (p6 &&& (65535 : Int32)))), .second, .val (.ref b39), .val (.ref b55), .val (.ref b79), .val (.int (own_vf (nar .boolean ex) (0 : Int64) (0 : Int64))), .val (.int s1), .val (.int s2), .unset] [(.int ex)])) target := by
        intro target kt
        by_cases hj280_274 : ex = (0 : Int32)
        · rw [if_pos hj280_274] at q_s3
          rw [q_s3] at kt
          show Steps p.tables e below (T249.setTop (mkF m 274 #[.val (.int p1), .val (.long q2), .second, .val (.long q3), .second, .val (.long q4), .second, .val (.long q5), .second, .val (.int p6), .val (.int ex), .val (.int fc), .val (.int fw), .val (.long o1), .second, .val (.long l1), .second, .val (.long o2), .second, .val (.long l2), .second, .val (.ref b30), .val (.double (FP.i2d (p6 &&& (65535 : Int32)))), .second, .val (.ref b39), .val (.ref b55), .val (.ref b79), .val (.int (own_vf (nar .boolean ex) (0 : Int64) (0 : Int64))), .val (.int s1), .val (.int s2), .unset] [(.int ex)])) _
          refine XS.ifYes X249.here hx rfl (pc0 := 274) (pc' := 291) rfl (hb hby at_274) rfl ((if0 _ _).trans (teq (hj280_274 : ex = (0 : Int32))).1) (by decide) (by decide) ?_
          show Steps p.tables e below (T249.setTop (mkF m 291 #[.val (.int p1), .val (.long q2), .second, .val (.long q3), .second, .val (.long q4), .second, .val (.long q5), .second, .val (.int p6), .val (.int ex), .val (.int fc), .val (.int fw), .val (.long o1), .second, .val (.long l1), .second, .val (.long o2), .second, .val (.long l2), .second, .val (.ref b30), .val (.double (FP.i2d (p6 &&& (65535 : Int32)))), .second, .val (.ref b39), .val (.ref b55), .val (.ref b79), .val (.int (own_vf (nar .boolean ex) (0 : Int64) (0 : Int64))), .val (.int s1), .val (.int s2), .unset] [])) _
          refine XS.iconst X249.here hx rfl (hb hby at_291) ?_
          exact kt
        · by_cases hj281_279 : s1 = (0 : Int32)
          · by_cases hj282_284 : s2 = (0 : Int32)
            · rw [if_neg hj280_274, if_pos hj281_279, if_pos hj282_284] at q_s3
              rw [q_s3] at kt
              show Steps p.tables e below (T249.setTop (mkF m 274 #[.val (.int p1), .val (.long q2), .second, .val (.long q3), .second, .val (.long q4), .second, .val (.long q5), .second, .val (.int p6), .val (.int ex), .val (.int fc), .val (.int fw), .val (.long o1), .second, .val (.long l1), .second, .val (.long o2), .second, .val (.long l2), .second, .val (.ref b30), .val (.double (FP.i2d (p6 &&& (65535 : Int32)))), .second, .val (.ref b39), .val (.ref b55), .val (.ref b79), .val (.int (own_vf (nar .boolean ex) (0 : Int64) (0 : Int64))), .val (.int s1), .val (.int s2), .unset] [(.int ex)])) _
              refine XS.ifNo X249.here hx rfl (hb hby at_274) rfl ((if0 _ _).trans (feq (hj280_274 : ¬ (ex = (0 : Int32)))).1) ?_
              show Steps p.tables e below (T249.setTop (mkF m 277 #[.val (.int p1), .val (.long q2), .second, .val (.long q3), .second, .val (.long q4), .second, .val (.long q5), .second, .val (.int p6), .val (.int ex), .val (.int fc), .val (.int fw), .val (.long o1), .second, .val (.long l1), .second, .val (.long o2), .second, .val (.long l2), .second, .val (.ref b30), .val (.double (FP.i2d (p6 &&& (65535 : Int32)))), .second, .val (.ref b39), .val (.ref b55), .val (.ref b79), .val (.int (own_vf (nar .boolean ex) (0 : Int64) (0 : Int64))), .val (.int s1), .val (.int s2), .unset] [])) _
              refine XS.iload X249.here hx rfl (hb hby at_277) rfl ?_
              show Steps p.tables e below (T249.setTop (mkF m 279 #[.val (.int p1), .val (.long q2), .second, .val (.long q3), .second, .val (.long q4), .second, .val (.long q5), .second, .val (.int p6), .val (.int ex), .val (.int fc), .val (.int fw), .val (.long o1), .second, .val (.long l1), .second, .val (.long o2), .second, .val (.long l2), .second, .val (.ref b30), .val (.double (FP.i2d (p6 &&& (65535 : Int32)))), .second, .val (.ref b39), .val (.ref b55), .val (.ref b79), .val (.int (own_vf (nar .boolean ex) (0 : Int64) (0 : Int64))), .val (.int s1), .val (.int s2), .unset] [(.int s1)])) _
              refine XS.ifNo X249.here hx rfl (hb hby at_279) rfl ((if0 _ _).trans (teq (hj281_279 : s1 = (0 : Int32))).2) ?_
              show Steps p.tables e below (T249.setTop (mkF m 282 #[.val (.int p1), .val (.long q2), .second, .val (.long q3), .second, .val (.long q4), .second, .val (.long q5), .second, .val (.int p6), .val (.int ex), .val (.int fc), .val (.int fw), .val (.long o1), .second, .val (.long l1), .second, .val (.long o2), .second, .val (.long l2), .second, .val (.ref b30), .val (.double (FP.i2d (p6 &&& (65535 : Int32)))), .second, .val (.ref b39), .val (.ref b55), .val (.ref b79), .val (.int (own_vf (nar .boolean ex) (0 : Int64) (0 : Int64))), .val (.int s1), .val (.int s2), .unset] [])) _
              refine XS.iload X249.here hx rfl (hb hby at_282) rfl ?_
              show Steps p.tables e below (T249.setTop (mkF m 284 #[.val (.int p1), .val (.long q2), .second, .val (.long q3), .second, .val (.long q4), .second, .val (.long q5), .second, .val (.int p6), .val (.int ex), .val (.int fc), .val (.int fw), .val (.long o1), .second, .val (.long l1), .second, .val (.long o2), .second, .val (.long l2), .second, .val (.ref b30), .val (.double (FP.i2d (p6 &&& (65535 : Int32)))), .second, .val (.ref b39), .val (.ref b55), .val (.ref b79), .val (.int (own_vf (nar .boolean ex) (0 : Int64) (0 : Int64))), .val (.int s1), .val (.int s2), .unset] [(.int s2)])) _
              refine XS.ifYes X249.here hx rfl (pc0 := 284) (pc' := 291) rfl (hb hby at_284) rfl ((if0 _ _).trans (teq (hj282_284 : s2 = (0 : Int32))).1) (by decide) (by decide) ?_
              show Steps p.tables e below (T249.setTop (mkF m 291 #[.val (.int p1), .val (.long q2), .second, .val (.long q3), .second, .val (.long q4), .second, .val (.long q5), .second, .val (.int p6), .val (.int ex), .val (.int fc), .val (.int fw), .val (.long o1), .second, .val (.long l1), .second, .val (.long o2), .second, .val (.long l2), .second, .val (.ref b30), .val (.double (FP.i2d (p6 &&& (65535 : Int32)))), .second, .val (.ref b39), .val (.ref b55), .val (.ref b79), .val (.int (own_vf (nar .boolean ex) (0 : Int64) (0 : Int64))), .val (.int s1), .val (.int s2), .unset] [])) _
              refine XS.iconst X249.here hx rfl (hb hby at_291) ?_
              exact kt
            · rw [if_neg hj280_274, if_pos hj281_279, if_neg hj282_284] at q_s3
              rw [q_s3] at kt
              show Steps p.tables e below (T249.setTop (mkF m 274 #[.val (.int p1), .val (.long q2), .second, .val (.long q3), .second, .val (.long q4), .second, .val (.long q5), .second, .val (.int p6), .val (.int ex), .val (.int fc), .val (.int fw), .val (.long o1), .second, .val (.long l1), .second, .val (.long o2), .second, .val (.long l2), .second, .val (.ref b30), .val (.double (FP.i2d (p6 &&& (65535 : Int32)))), .second, .val (.ref b39), .val (.ref b55), .val (.ref b79), .val (.int (own_vf (nar .boolean ex) (0 : Int64) (0 : Int64))), .val (.int s1), .val (.int s2), .unset] [(.int ex)])) _
              refine XS.ifNo X249.here hx rfl (hb hby at_274) rfl ((if0 _ _).trans (feq (hj280_274 : ¬ (ex = (0 : Int32)))).1) ?_
              show Steps p.tables e below (T249.setTop (mkF m 277 #[.val (.int p1), .val (.long q2), .second, .val (.long q3), .second, .val (.long q4), .second, .val (.long q5), .second, .val (.int p6), .val (.int ex), .val (.int fc), .val (.int fw), .val (.long o1), .second, .val (.long l1), .second, .val (.long o2), .second, .val (.long l2), .second, .val (.ref b30), .val (.double (FP.i2d (p6 &&& (65535 : Int32)))), .second, .val (.ref b39), .val (.ref b55), .val (.ref b79), .val (.int (own_vf (nar .boolean ex) (0 : Int64) (0 : Int64))), .val (.int s1), .val (.int s2), .unset] [])) _
              refine XS.iload X249.here hx rfl (hb hby at_277) rfl ?_
              show Steps p.tables e below (T249.setTop (mkF m 279 #[.val (.int p1), .val (.long q2), .second, .val (.long q3), .second, .val (.long q4), .second, .val (.long q5), .second, .val (.int p6), .val (.int ex), .val (.int fc), .val (.int fw), .val (.long o1), .second, .val (.long l1), .second, .val (.long o2), .second, .val (.long l2), .second, .val (.ref b30), .val (.double (FP.i2d (p6 &&& (65535 : Int32)))), .second, .val (.ref b39), .val (.ref b55), .val (.ref b79), .val (.int (own_vf (nar .boolean ex) (0 : Int64) (0 : Int64))), .val (.int s1), .val (.int s2), .unset] [(.int s1)])) _
              refine XS.ifNo X249.here hx rfl (hb hby at_279) rfl ((if0 _ _).trans (teq (hj281_279 : s1 = (0 : Int32))).2) ?_
              show Steps p.tables e below (T249.setTop (mkF m 282 #[.val (.int p1), .val (.long q2), .second, .val (.long q3), .second, .val (.long q4), .second, .val (.long q5), .second, .val (.int p6), .val (.int ex), .val (.int fc), .val (.int fw), .val (.long o1), .second, .val (.long l1), .second, .val (.long o2), .second, .val (.long l2), .second, .val (.ref b30), .val (.double (FP.i2d (p6 &&& (65535 : Int32)))), .second, .val (.ref b39), .val (.ref b55), .val (.ref b79), .val (.int (own_vf (nar .boolean ex) (0 : Int64) (0 : Int64))), .val (.int s1), .val (.int s2), .unset] [])) _
              refine XS.iload X249.here hx rfl (hb hby at_282) rfl ?_
              show Steps p.tables e below (T249.setTop (mkF m 284 #[.val (.int p1), .val (.long q2), .second, .val (.long q3), .second, .val (.long q4), .second, .val (.long q5), .second, .val (.int p6), .val (.int ex), .val (.int fc), .val (.int fw), .val (.long o1), .second, .val (.long l1), .second, .val (.long o2), .second, .val (.long l2), .second, .val (.ref b30), .val (.double (FP.i2d (p6 &&& (65535 : Int32)))), .second, .val (.ref b39), .val (.ref b55), .val (.ref b79), .val (.int (own_vf (nar .boolean ex) (0 : Int64) (0 : Int64))), .val (.int s1), .val (.int s2), .unset] [(.int s2)])) _
              refine XS.ifNo X249.here hx rfl (hb hby at_284) rfl ((if0 _ _).trans (feq (hj282_284 : ¬ (s2 = (0 : Int32)))).1) ?_
              show Steps p.tables e below (T249.setTop (mkF m 287 #[.val (.int p1), .val (.long q2), .second, .val (.long q3), .second, .val (.long q4), .second, .val (.long q5), .second, .val (.int p6), .val (.int ex), .val (.int fc), .val (.int fw), .val (.long o1), .second, .val (.long l1), .second, .val (.long o2), .second, .val (.long l2), .second, .val (.ref b30), .val (.double (FP.i2d (p6 &&& (65535 : Int32)))), .second, .val (.ref b39), .val (.ref b55), .val (.ref b79), .val (.int (own_vf (nar .boolean ex) (0 : Int64) (0 : Int64))), .val (.int s1), .val (.int s2), .unset] [])) _
              refine XS.iconst X249.here hx rfl (hb hby at_287) ?_
              show Steps p.tables e below (T249.setTop (mkF m 288 #[.val (.int p1), .val (.long q2), .second, .val (.long q3), .second, .val (.long q4), .second, .val (.long q5), .second, .val (.int p6), .val (.int ex), .val (.int fc), .val (.int fw), .val (.long o1), .second, .val (.long l1), .second, .val (.long o2), .second, .val (.long l2), .second, .val (.ref b30), .val (.double (FP.i2d (p6 &&& (65535 : Int32)))), .second, .val (.ref b39), .val (.ref b55), .val (.ref b79), .val (.int (own_vf (nar .boolean ex) (0 : Int64) (0 : Int64))), .val (.int s1), .val (.int s2), .unset] [(.int (1 : Int32))])) _
              refine XS.goto X249.here hx rfl (pc0 := 288) (pc' := 292) rfl (hb hby at_288) (by decide) (by decide) ?_
              exact kt
          · rw [if_neg hj280_274, if_neg hj281_279] at q_s3
            rw [q_s3] at kt
            show Steps p.tables e below (T249.setTop (mkF m 274 #[.val (.int p1), .val (.long q2), .second, .val (.long q3), .second, .val (.long q4), .second, .val (.long q5), .second, .val (.int p6), .val (.int ex), .val (.int fc), .val (.int fw), .val (.long o1), .second, .val (.long l1), .second, .val (.long o2), .second, .val (.long l2), .second, .val (.ref b30), .val (.double (FP.i2d (p6 &&& (65535 : Int32)))), .second, .val (.ref b39), .val (.ref b55), .val (.ref b79), .val (.int (own_vf (nar .boolean ex) (0 : Int64) (0 : Int64))), .val (.int s1), .val (.int s2), .unset] [(.int ex)])) _
            refine XS.ifNo X249.here hx rfl (hb hby at_274) rfl ((if0 _ _).trans (feq (hj280_274 : ¬ (ex = (0 : Int32)))).1) ?_
            show Steps p.tables e below (T249.setTop (mkF m 277 #[.val (.int p1), .val (.long q2), .second, .val (.long q3), .second, .val (.long q4), .second, .val (.long q5), .second, .val (.int p6), .val (.int ex), .val (.int fc), .val (.int fw), .val (.long o1), .second, .val (.long l1), .second, .val (.long o2), .second, .val (.long l2), .second, .val (.ref b30), .val (.double (FP.i2d (p6 &&& (65535 : Int32)))), .second, .val (.ref b39), .val (.ref b55), .val (.ref b79), .val (.int (own_vf (nar .boolean ex) (0 : Int64) (0 : Int64))), .val (.int s1), .val (.int s2), .unset] [])) _
            refine XS.iload X249.here hx rfl (hb hby at_277) rfl ?_
            show Steps p.tables e below (T249.setTop (mkF m 279 #[.val (.int p1), .val (.long q2), .second, .val (.long q3), .second, .val (.long q4), .second, .val (.long q5), .second, .val (.int p6), .val (.int ex), .val (.int fc), .val (.int fw), .val (.long o1), .second, .val (.long l1), .second, .val (.long o2), .second, .val (.long l2), .second, .val (.ref b30), .val (.double (FP.i2d (p6 &&& (65535 : Int32)))), .second, .val (.ref b39), .val (.ref b55), .val (.ref b79), .val (.int (own_vf (nar .boolean ex) (0 : Int64) (0 : Int64))), .val (.int s1), .val (.int s2), .unset] [(.int s1)])) _
            refine XS.ifYes X249.here hx rfl (pc0 := 279) (pc' := 287) rfl (hb hby at_279) rfl ((if0 _ _).trans (feq (hj281_279 : ¬ (s1 = (0 : Int32)))).2) (by decide) (by decide) ?_
            show Steps p.tables e below (T249.setTop (mkF m 287 #[.val (.int p1), .val (.long q2), .second, .val (.long q3), .second, .val (.long q4), .second, .val (.long q5), .second, .val (.int p6), .val (.int ex), .val (.int fc), .val (.int fw), .val (.long o1), .second, .val (.long l1), .second, .val (.long o2), .second, .val (.long l2), .second, .val (.ref b30), .val (.double (FP.i2d (p6 &&& (65535 : Int32)))), .second, .val (.ref b39), .val (.ref b55), .val (.ref b79), .val (.int (own_vf (nar .boolean ex) (0 : Int64) (0 : Int64))), .val (.int s1), .val (.int s2), .unset] [])) _
            refine XS.iconst X249.here hx rfl (hb hby at_287) ?_
            show Steps p.tables e below (T249.setTop (mkF m 288 #[.val (.int p1), .val (.long q2), .second, .val (.long q3), .second, .val (.long q4), .second, .val (.long q5), .second, .val (.int p6), .val (.int ex), .val (.int fc), .val (.int fw), .val (.long o1), .second, .val (.long l1), .second, .val (.long o2), .second, .val (.long l2), .second, .val (.ref b30), .val (.double (FP.i2d (p6 &&& (65535 : Int32)))), .second, .val (.ref b39), .val (.ref b55), .val (.ref b79), .val (.int (own_vf (nar .boolean ex) (0 : Int64) (0 : Int64))), .val (.int s1), .val (.int s2), .unset] [(.int (1 : Int32))])) _
            refine XS.goto X249.here hx rfl (pc0 := 288) (pc' := 292) rfl (hb hby at_288) (by decide) (by decide) ?_
            exact kt
      have sg284 : ∀ target, Steps p.tables e below (T249.setTop (mkF m 301 #[.val (.int p1), .val (.long q2), .second, .val (.long q3), .second, .val (.long q4), .second, .val (.long q5), .second, .val (.int p6), .val (.int ex), .val (.int fc), .val (.int fw), .val (.long o1), .second, .val (.long l1), .second, .val (.long o2), .second, .val (.long l2), .second, .val (.ref b30), .val (.double (FP.i2d (p6 &&& (65535 : Int32)))), .second, .val (.ref b39), .val (.ref b55), .val (.ref b79), .val (.int (own_vf (nar .boolean ex) (0 : Int64) (0 : Int64))), .val (.int s1), .val (.int s2), .val (.int s3)] [(.ref b79)])) target → Steps p.tables e below (T249.setTop (mkF m 292 #[.val (.int p1), .val (.long q2), .second, .val (.long q3), .second, .val (.long q4), .second, .val (.long q5), .second, .val (.int p6), .val (.int ex), .val (.int fc), .val (.int fw), .val (.long o1), .second, .val (.long l1), .second, .val (.long o2), .second, .val (.long l2), .second, .val (.ref b30), .val (.double (FP.i2d (p6 &&& (65535 : Int32)))), .second, .val (.ref b39), .val (.ref b55), .val (.ref b79), .val (.int (own_vf (nar .boolean ex) (0 : Int64) (0 : Int64))), .val (.int s1), .val (.int s2), .unset] [(.int s3)])) target := by
        intro target kt
        show Steps p.tables e below (T249.setTop (mkF m 292 #[.val (.int p1), .val (.long q2), .second, .val (.long q3), .second, .val (.long q4), .second, .val (.long q5), .second, .val (.int p6), .val (.int ex), .val (.int fc), .val (.int fw), .val (.long o1), .second, .val (.long l1), .second, .val (.long o2), .second, .val (.long l2), .second, .val (.ref b30), .val (.double (FP.i2d (p6 &&& (65535 : Int32)))), .second, .val (.ref b39), .val (.ref b55), .val (.ref b79), .val (.int (own_vf (nar .boolean ex) (0 : Int64) (0 : Int64))), .val (.int s1), .val (.int s2), .unset] [(.int s3)])) _
        refine XS.istore X249.here hx rfl (hb hby at_292) rfl (l' := #[.val (.int p1), .val (.long q2), .second, .val (.long q3), .second, .val (.long q4), .second, .val (.long q5), .second, .val (.int p6), .val (.int ex), .val (.int fc), .val (.int fw), .val (.long o1), .second, .val (.long l1), .second, .val (.long o2), .second, .val (.long l2), .second, .val (.ref b30), .val (.double (FP.i2d (p6 &&& (65535 : Int32)))), .second, .val (.ref b39), .val (.ref b55), .val (.ref b79), .val (.int (own_vf (nar .boolean ex) (0 : Int64) (0 : Int64))), .val (.int s1), .val (.int s2), .val (.int s3)]) rfl ?_
        show Steps p.tables e below (T249.setTop (mkF m 294 #[.val (.int p1), .val (.long q2), .second, .val (.long q3), .second, .val (.long q4), .second, .val (.long q5), .second, .val (.int p6), .val (.int ex), .val (.int fc), .val (.int fw), .val (.long o1), .second, .val (.long l1), .second, .val (.long o2), .second, .val (.long l2), .second, .val (.ref b30), .val (.double (FP.i2d (p6 &&& (65535 : Int32)))), .second, .val (.ref b39), .val (.ref b55), .val (.ref b79), .val (.int (own_vf (nar .boolean ex) (0 : Int64) (0 : Int64))), .val (.int s1), .val (.int s2), .val (.int s3)] [])) _
        refine XS.iload X249.here hx rfl (hb hby at_294) rfl ?_
        show Steps p.tables e below (T249.setTop (mkF m 296 #[.val (.int p1), .val (.long q2), .second, .val (.long q3), .second, .val (.long q4), .second, .val (.long q5), .second, .val (.int p6), .val (.int ex), .val (.int fc), .val (.int fw), .val (.long o1), .second, .val (.long l1), .second, .val (.long o2), .second, .val (.long l2), .second, .val (.ref b30), .val (.double (FP.i2d (p6 &&& (65535 : Int32)))), .second, .val (.ref b39), .val (.ref b55), .val (.ref b79), .val (.int (own_vf (nar .boolean ex) (0 : Int64) (0 : Int64))), .val (.int s1), .val (.int s2), .val (.int s3)] [(.int (own_vf (nar .boolean ex) (0 : Int64) (0 : Int64)))])) _
        refine XS.ifNo X249.here hx rfl (hb hby at_296) rfl ((if0 _ _).trans (teq (own_fresh _ : (own_vf (nar .boolean ex) (0 : Int64) (0 : Int64)) = (0 : Int32))).2) ?_
        show Steps p.tables e below (T249.setTop (mkF m 299 #[.val (.int p1), .val (.long q2), .second, .val (.long q3), .second, .val (.long q4), .second, .val (.long q5), .second, .val (.int p6), .val (.int ex), .val (.int fc), .val (.int fw), .val (.long o1), .second, .val (.long l1), .second, .val (.long o2), .second, .val (.long l2), .second, .val (.ref b30), .val (.double (FP.i2d (p6 &&& (65535 : Int32)))), .second, .val (.ref b39), .val (.ref b55), .val (.ref b79), .val (.int (own_vf (nar .boolean ex) (0 : Int64) (0 : Int64))), .val (.int s1), .val (.int s2), .val (.int s3)] [])) _
        refine XS.aload X249.here hx rfl (hb hby at_299) rfl rfl ?_
        exact kt
      obtain ⟨cq285, kq285, q285a, q285b, q285c⟩ := isOf hZ rfl f263
      obtain ⟨_, _, ⟨T285, L285, k285, n285⟩, -, X285, ⟨Lc285, hQ285, l285, y285, z285⟩, st285⟩ := X249.virtualBack hx (y := (⟨"com/example/brelok/brelok/perf/Tally", "failedToExclude", "()Z"⟩ : MethodName)) (z := (⟨"com/example/brelok/brelok/perf/Tally", "failedToExclude", "()Z"⟩ : MethodName)) hown (mvT hZ (hw _ (List.mem_of_getElem? (i := 89) rfl))) (mvT hZ (hw _ (List.mem_of_getElem? (i := 90) rfl))) (notFace_of_selects (args := #[]) (mvT hZ (hw _ (List.mem_of_getElem? (i := 92) rfl)))) (mvT hZ (hw _ (List.mem_of_getElem? (i := 92) rfl))) (mvT hZ (hw _ (List.mem_of_getElem? (i := 91) rfl))) (by decide) (backOf (W := 0) (rm13 l Z a0 hw [] b79 (nar .boolean ex) (((0 : Int64) + o1) + o2) (((0 : Int64) + l1) + l2) T249.heap n0 Zs249 f264 f266 f267) hZ (hw _ (List.mem_of_getElem? (i := 93) rfl)) (hw _ (List.mem_of_getElem? (i := 25) rfl)) (by decide) (by decide)) q285a q285c (g := (mkF m 301 #[.val (.int p1), .val (.long q2), .second, .val (.long q3), .second, .val (.long q4), .second, .val (.long q5), .second, .val (.int p6), .val (.int ex), .val (.int fc), .val (.int fw), .val (.long o1), .second, .val (.long l1), .second, .val (.long o2), .second, .val (.long l2), .second, .val (.ref b30), .val (.double (FP.i2d (p6 &&& (65535 : Int32)))), .second, .val (.ref b39), .val (.ref b55), .val (.ref b79), .val (.int (own_vf (nar .boolean ex) (0 : Int64) (0 : Int64))), .val (.int s1), .val (.int s2), .val (.int s3)] [(.ref b79)])) rfl (by rw [hml]; rfl) (Steps.refl _) (argsL := []) (rest := []) (lenOf pd_4 rfl) rfl (by show 2 * 0 + _ ≤ _; exact Nat.le_of_eq rfl) (hb hby at_301) (fun _ _ => ⟨rfl, rfl, (by decide : 10 + 0 ≤ _), (by decide : 36 + 0 ≤ _)⟩)
      dsimp only [Pt.U, Pt.locs, Pt.cells, Pt.slots] at X285 l285 y285 z285 st285 hQ285
      subst l285 y285 z285
      obtain ⟨rfl, N285q, c285_0⟩ := hQ285
      have N285 := Fr.app N249 N285q
      have sg286 : ∀ target, Steps p.tables e below (T285.setTop (mkF m 314 #[.val (.int p1), .val (.long q2), .second, .val (.long q3), .second, .val (.long q4), .second, .val (.long q5), .second, .val (.int p6), .val (.int ex), .val (.int fc), .val (.int fw), .val (.long o1), .second, .val (.long l1), .second, .val (.long o2), .second, .val (.long l2), .second, .val (.ref b30), .val (.double (FP.i2d (p6 &&& (65535 : Int32)))), .second, .val (.ref b39), .val (.ref b55), .val (.ref b79), .val (.int (own_vf (nar .boolean ex) (0 : Int64) (0 : Int64))), .val (.int s1), .val (.int s2), .val (.int s3)] [(.int (1 : Int32))])) target → Steps p.tables e below (T285.setTop (mkF m 304 #[.val (.int p1), .val (.long q2), .second, .val (.long q3), .second, .val (.long q4), .second, .val (.long q5), .second, .val (.int p6), .val (.int ex), .val (.int fc), .val (.int fw), .val (.long o1), .second, .val (.long l1), .second, .val (.long o2), .second, .val (.long l2), .second, .val (.ref b30), .val (.double (FP.i2d (p6 &&& (65535 : Int32)))), .second, .val (.ref b39), .val (.ref b55), .val (.ref b79), .val (.int (own_vf (nar .boolean ex) (0 : Int64) (0 : Int64))), .val (.int s1), .val (.int s2), .val (.int s3)] [(.int (own_vf (nar .boolean ex) (((0 : Int64) + o1) + o2) (((0 : Int64) + l1) + l2)))])) target := by
        intro target kt
        show Steps p.tables e below (T285.setTop (mkF m 304 #[.val (.int p1), .val (.long q2), .second, .val (.long q3), .second, .val (.long q4), .second, .val (.long q5), .second, .val (.int p6), .val (.int ex), .val (.int fc), .val (.int fw), .val (.long o1), .second, .val (.long l1), .second, .val (.long o2), .second, .val (.long l2), .second, .val (.ref b30), .val (.double (FP.i2d (p6 &&& (65535 : Int32)))), .second, .val (.ref b39), .val (.ref b55), .val (.ref b79), .val (.int (own_vf (nar .boolean ex) (0 : Int64) (0 : Int64))), .val (.int s1), .val (.int s2), .val (.int s3)] [(.int (own_vf (nar .boolean ex) (((0 : Int64) + o1) + o2) (((0 : Int64) + l1) + l2)))])) _
        refine XS.iload X285.here hx rfl (hb hby at_304) rfl ?_
        show Steps p.tables e below (T285.setTop (mkF m 306 #[.val (.int p1), .val (.long q2), .second, .val (.long q3), .second, .val (.long q4), .second, .val (.long q5), .second, .val (.int p6), .val (.int ex), .val (.int fc), .val (.int fw), .val (.long o1), .second, .val (.long l1), .second, .val (.long o2), .second, .val (.long l2), .second, .val (.ref b30), .val (.double (FP.i2d (p6 &&& (65535 : Int32)))), .second, .val (.ref b39), .val (.ref b55), .val (.ref b79), .val (.int (own_vf (nar .boolean ex) (0 : Int64) (0 : Int64))), .val (.int s1), .val (.int s2), .val (.int s3)] [(.int s3), (.int (own_vf (nar .boolean ex) (((0 : Int64) + o1) + o2) (((0 : Int64) + l1) + l2)))])) _
        refine XS.icmpNo X285.here hx rfl (hb hby at_306) rfl (teq (by rw [q_s3, q_s1, q_s2, hex]; exact own_two b_o1 b_l1 b_o2 b_l2 ex : (own_vf (nar .boolean ex) (((0 : Int64) + o1) + o2) (((0 : Int64) + l1) + l2)) = s3)).2 ?_
        show Steps p.tables e below (T285.setTop (mkF m 309 #[.val (.int p1), .val (.long q2), .second, .val (.long q3), .second, .val (.long q4), .second, .val (.long q5), .second, .val (.int p6), .val (.int ex), .val (.int fc), .val (.int fw), .val (.long o1), .second, .val (.long l1), .second, .val (.long o2), .second, .val (.long l2), .second, .val (.ref b30), .val (.double (FP.i2d (p6 &&& (65535 : Int32)))), .second, .val (.ref b39), .val (.ref b55), .val (.ref b79), .val (.int (own_vf (nar .boolean ex) (0 : Int64) (0 : Int64))), .val (.int s1), .val (.int s2), .val (.int s3)] [])) _
        refine XS.iconst X285.here hx rfl (hb hby at_309) ?_
        show Steps p.tables e below (T285.setTop (mkF m 310 #[.val (.int p1), .val (.long q2), .second, .val (.long q3), .second, .val (.long q4), .second, .val (.long q5), .second, .val (.int p6), .val (.int ex), .val (.int fc), .val (.int fw), .val (.long o1), .second, .val (.long l1), .second, .val (.long o2), .second, .val (.long l2), .second, .val (.ref b30), .val (.double (FP.i2d (p6 &&& (65535 : Int32)))), .second, .val (.ref b39), .val (.ref b55), .val (.ref b79), .val (.int (own_vf (nar .boolean ex) (0 : Int64) (0 : Int64))), .val (.int s1), .val (.int s2), .val (.int s3)] [(.int (1 : Int32))])) _
        refine XS.goto X285.here hx rfl (pc0 := 310) (pc' := 314) rfl (hb hby at_310) (by decide) (by decide) ?_
        exact kt
      obtain ⟨fs, hr, hrun, hended, hW, hsame⟩ := X285.leave (v := some (.int (1 : Int32))) (fun h => by rw [Bd.returns] at h; cases h)
      refine ⟨_, _, pre0 _ ?_, hrun, hended, _, _, rfl, ?_, ⟨_, rfl⟩, hW, hsame.mono (by decide) (by decide)⟩
      · show Steps p.tables e below (s₁.setTop (mkF m 0 #[.val (.int p1), .val (.long q2), .second, .val (.long q3), .second, .val (.long q4), .second, .val (.long q5), .second, .val (.int p6), .unset, .unset, .unset, .unset, .unset, .unset, .unset, .unset, .unset, .unset, .unset, .unset, .unset, .unset, .unset, .unset, .unset, .unset, .unset, .unset, .unset] [])) _
        refine sg1 _ ?_
        refine sg4 _ ?_
        refine sg5 _ ?_
        refine sg8 _ ?_
        refine sg9 _ ?_
        refine sg12 _ ?_
        refine sg13 _ ?_
        refine sg16 _ ?_
        refine sg17 _ ?_
        refine sg20 _ ?_
        refine sg21 _ ?_
        refine sg24 _ ?_
        refine sg25 _ ?_
        refine sg28 _ ?_
        refine sg29 _ ?_
        refine st30 _ ?_
        refine sg33 _ ?_
        refine st35 _ ?_
        refine sg38 _ ?_
        refine st39 _ ?_
        refine sg46 _ ?_
        refine st47.trans ?_
        refine sg54 _ ?_
        refine st55 _ ?_
        refine sg66 _ ?_
        refine st67.trans ?_
        refine sg78 _ ?_
        refine st79 _ ?_
        refine sg98 _ ?_
        refine st99 _ ?_
        refine sg121 _ ?_
        refine st122.trans ?_
        refine sg143 _ ?_
        refine st144.trans ?_
        refine sg167 _ ?_
        refine st168.trans ?_
        refine sg169 _ ?_
        refine sg214 _ ?_
        refine st215.trans ?_
        refine sg234 _ ?_
        refine sg248 _ ?_
        refine st249.trans ?_
        refine sg268 _ ?_
        refine sg272 _ ?_
        refine sg273 _ ?_
        refine sg277 _ ?_
        refine sg278 _ ?_
        refine sg283 _ ?_
        refine sg284 _ ?_
        refine st285.trans ?_
        refine sg286 _ ?_
        show Steps p.tables e below (T285.setTop (mkF m 314 #[.val (.int p1), .val (.long q2), .second, .val (.long q3), .second, .val (.long q4), .second, .val (.long q5), .second, .val (.int p6), .val (.int ex), .val (.int fc), .val (.int fw), .val (.long o1), .second, .val (.long l1), .second, .val (.long o2), .second, .val (.long l2), .second, .val (.ref b30), .val (.double (FP.i2d (p6 &&& (65535 : Int32)))), .second, .val (.ref b39), .val (.ref b55), .val (.ref b79), .val (.int (own_vf (nar .boolean ex) (0 : Int64) (0 : Int64))), .val (.int s1), .val (.int s2), .val (.int s3)] [(.int (1 : Int32))])) _
        exact retN X285 hx (t := .boolean) Bd.returns (by simp) (hb hby at_314) hr
      · show Q_rm0 Z p1 q2 q3 q4 q5 p6 d0 kd G1 h0 n0 _ T285.heap _
        rw [c285_0]
        exact ⟨rfl, N285⟩
set_option maxRecDepth 65536 in
set_option maxHeartbeats 40000000 in
theorem comes_1 {Post : Tables → Env → Array Value → State → Outcome → State → Prop} (hpost : ∀ tb e args s v u, (limb_1_1.after args s (.returned v) u = true ∧ limb_1_2.after args s (.returned v) u = true ∧ True) → FrameEnd s (.returned v) u (Jvm.fieldLocs frame_1_writes args s ++ Jvm.arrayLocs frame_1_arrays args s ++ Jvm.staticLocs frame_1_statics s) 32 192 → Post tb e args s (.returned v) u) :
    ArmFor flags0 classFile x code maxLocals ret World_1 tables_1 room_1 Calls_1 rest_1 Pre_1 Post := by
  intro l hfl _ _ p e ha hc hk s m args below hf hA hF happ hP
  obtain ⟨hcalls, hrest, hpre⟩ := hP
  obtain ⟨-, -, -, hnamed, -, -, -, hat⟩ := (Spec.applies_iff hf).mp happ
  obtain ⟨hg, hn⟩ := and_e (Cond.before_iff.mp (show (Jvm.Cond.and given_1 narrow_1).before args s = true from hpre))
  obtain ⟨g1, g2⟩ := and_e hg
  obtain ⟨g3, g4⟩ := and_e g2
  obtain ⟨g5, g6⟩ := and_e g4
  obtain ⟨g7, g8⟩ := and_e g6
  obtain ⟨g9, g10⟩ := and_e g8
  obtain ⟨g11, g12⟩ := and_e g10
  obtain ⟨w0, w1, w2, w3, w4, w5, rfl⟩ : ∃ w0 w1 w2 w3 w4 w5 : Value, args = #[w0, w1, w2, w3, w4, w5] := by
    have hs : args.size = 6 := by simpa [Cond.value, given_1] using g1
    obtain ⟨L⟩ := args
    match L, hs with
    | [w0, w1, w2, w3, w4, w5], _ => exact ⟨w0, w1, w2, w3, w4, w5, rfl⟩
  have hw := fun d (hd : d ∈ tables_1) => atoms_spec (ws := Jvm.Cond.code x code maxLocals ret :: tables_1) hat d (List.mem_cons_of_mem _ hd)
  have hfit : Fit s := fun {y c} hc i hi => by
    obtain ⟨ha, rfl⟩ := Array.getElem?_eq_some_iff.mp hc
    have q := List.all_eq_true.mp ((Array.all_eq_true_iff_forall_mem.mp hF) _ (Array.getElem_mem ha)) i (List.mem_range.mpr hi)
    simpa [Array.getElem?_eq_getElem hi] using q
  obtain ⟨hsets, hown0⟩ := atoms_of _ (rest_1_c_eq ▸ (show rest_1_c.before _ s = true from hrest))
  have hr0 := Cond.before_iff.mp hown0
  obtain ⟨i0, ei0⟩ := is_v g3
  obtain rfl : w0 = (.int i0) := Option.some.inj ei0
  obtain ⟨i1, ei1⟩ := isL_v g5
  obtain rfl : w1 = (.long i1) := Option.some.inj ei1
  obtain ⟨i2, ei2⟩ := isL_v g7
  obtain rfl : w2 = (.long i2) := Option.some.inj ei2
  obtain ⟨i3, ei3⟩ := isL_v g9
  obtain rfl : w3 = (.long i3) := Option.some.inj ei3
  obtain ⟨i4, ei4⟩ := isL_v g11
  obtain rfl : w4 = (.long i4) := Option.some.inj ei4
  obtain ⟨i5, ei5⟩ := is_v g12
  obtain rfl : w5 = (.int i5) := Option.some.inj ei5
  obtain ⟨G1, eG1⟩ := is_v (Cond.before_iff.mp (hsets _ (List.mem_of_getElem? (i := 1) rfl)))
  have S1 : Sta s s.heap "java/lang/String" "COMPACT_STRINGS" "Z" (.int G1) := Sta.start eG1 (Or.inl (hsets _ (List.mem_of_getElem? (i := 0) rfl)))
  have P3 : ¬ (G1 = (0 : Int32)) := gotF (Cond.eq_ints eG1 (Term.int_eval (0))) (not_v (Cond.before_iff.mp (hsets _ (List.mem_of_getElem? (i := 2) rfl))))
  have l15 := Cond.before_iff.mp (hsets _ (List.mem_of_getElem? (i := 15) rfl))
  obtain ⟨d0, ed0⟩ := arr_v l15
  have S0 := Sta.start ed0 (Or.inr ⟨(hw _ (List.mem_of_getElem? (i := 59) rfl)), (hsets _ (List.mem_of_getElem? (i := 11) rfl))⟩)
  obtain ⟨cd, Ad⟩ := Arr.start ed0 l15
  have V0 := own_arv0 Ad (own_len0 ed0 Ad (Cond.before_iff.mp (hsets _ (List.mem_of_getElem? (i := 17) rfl))))
  obtain ⟨n, o, h1, h2, h3, _, L, rfl, ⟨rfl, N⟩, hq⟩ := rm0 l s _ hw tables_1 i0 i1 i2 i3 i4 i5 d0 cd.cls G1 s.heap s.heap.size (Nat.le_refl _) (Old.start s) S0 V0 S1 P3 p e ha hc hk s m _ below hf ((Spec.applies_iff_loose hf).mp happ).1 ⟨rfl, State.Warmed39.refl s, rfl⟩ trivial
  refine ⟨n, _, h1, h2, h3, hpost _ _ _ _ _ _ ⟨Cond.after_iff.mpr rfl, Cond.after_iff.mpr (eq_i res_at (Term.int_eval (1)) rfl), trivial⟩ ⟨hq.1, hq.2.1, (hq.2.2.sift fun y hy => Or.inr (N y hy)).mono (by decide) (by decide)⟩⟩
theorem main_1_1 : Claimed_1_1 := comes_1 fun _ _ _ _ _ _ h hF => ⟨h.1, hF⟩
theorem main_1_2 : Claimed_1_2 := comes_1 fun _ _ _ _ _ _ h hF => ⟨h.2.1, hF⟩
end Jvm.Pilot.@@N@@
namespace Jvm.Pilot.@@N@@
open Jvm Jvm.ClassFile Sem Op Lib Jvm.Free Jvm.Stand Jvm.Pilot.@@N@@.Jvm.D
/-! MADE BY PROGRAM (witnessworld.py) out of the Statement's table words and the real class files: 34 classes; the members and pool entries that the words name. The judged class is class 1, her method 1. -/
namespace start1
open Jvm.ClassFile
def u (s : String) : CpInfo := .utf8 (stringToUtf16 s)
/-- a pool by its gaps: so many unusable entries, then the entry; so many at the end -/
def gap : Nat → List CpInfo → List CpInfo
  | 0, r => r
  | n + 1, r => .unusable :: gap n r
def poolList (es : List (Nat × CpInfo)) (last : Nat) : List CpInfo := es.foldr (fun e r => gap e.1 (e.2 :: r)) (gap last [])
def pool (es : List (Nat × CpInfo)) (last : Nat) : Array CpInfo := ⟨poolList es last⟩
def fileOf (pool : Array CpInfo) (this : Nat) (attrs : Array Attribute := #[]) (ms : Array MethodInfo := #[]) (fl : Nat := 33) (sup : Nat := 0) (ifs : Array Nat := #[]) (fds : Array FieldInfo := #[]) : ClassFile where
  minorVersion := 0
  majorVersion := 65
  constantPool := pool
  accessFlags := fl
  thisClass := this
  superClass := sup
  interfaces := ifs
  fields := fds
  methods := ms
  attributes := attrs
def plain (name : String) (sup : Option ClassId) : Class where
  name := name
  kind := .ordinary
  loader := none
  accessFlags := 33
  super := sup
  interfaces := #[]
  cf := none
  fields := #[]
  methods := #[]
  instanceTypes := #[]
  staticTypes := #[]
  resolved := #[]
  callSites := []
  init := .initialized
  statics := none
  mirror := none

def pool0 : Array CpInfo := pool [(5, u "<init>"), (0, u "()V"), (1, .class_ 10), (1, u "java/lang/Object")] 113

def k0c0 : Code := { maxStack := 0, maxLocals := 1, code := object_method_1_code, exceptionTable := #[], attributes := #[] }
def k0m0 : Method := { name := "<init>", desc := "()V", sig := { parameters := [], returnType := none }, accessFlags := 1, code := some k0c0 }
/-- java/lang/Object -/
def k0 : Class := { plain "java/lang/Object" none with
  accessFlags := 33
  interfaces := #[]
  cf := some (fileOf pool0 8 #[] #[{ accessFlags := 1, nameIndex := 5, descriptorIndex := 6, attributes := #[] }] 33 0 #[] #[])
  fields := #[]
  methods := #[k0m0]
  instanceTypes := #[]
  staticTypes := #[]
  resolved := Array.replicate 124 none
  statics := none }

def pool1 : Array CpInfo := pool [(2, .class_ 4), (1, u "java/lang/Object"), (0, u "<init>"), (0, u "()V"), (0, .long 4611686018427387903), (1, .integer 65535), (0, .class_ 11), (0, u "com/example/brelok/brelok/perf/Timing$Measure"), (0, .methodref 10 13), (0, .nameAndType 5 14), (0, u "(DJJ)V"), (0, .class_ 16), (0, u "com/example/brelok/brelok/perf/Tally"), (0, .class_ 18), (0, u "java/lang/String"), (0, .methodref 17 20), (0, .nameAndType 5 21), (0, u "([C)V"), (0, .methodref 15 23), (0, .nameAndType 5 24), (0, u "(Ljava/lang/String;Z)V"), (0, .methodref 15 26), (0, .nameAndType 27 28), (0, u "failedToExclude"), (0, u "()Z"), (0, .methodref 15 30), (0, .nameAndType 31 32), (0, u "addContended"), (0, u "(Lcom/example/brelok/brelok/perf/Timing$Measure;)V"), (0, .methodref 15 34), (0, .nameAndType 35 32), (0, u "setWaiting"), (0, .class_ 37), (0, u "com/example/brelok/brelok/perf/TallyFailedToExcludePinLaw"), (2, u "law"), (0, u "(IJJJJI)Z")] 9

def k1m0 : Method := { name := "<init>", desc := "()V", sig := { parameters := [], returnType := none }, accessFlags := 1, code := none }
def k1c1 : Code := { maxStack := 8, maxLocals := 31, code := code, exceptionTable := #[], attributes := #[] }
def k1m1 : Method := { name := "law", desc := "(IJJJJI)Z", sig := { parameters := [.int, .long, .long, .long, .long, .int], returnType := some .boolean }, accessFlags := 9, code := some k1c1 }
/-- com/example/brelok/brelok/perf/TallyFailedToExcludePinLaw -/
def k1 : Class := { plain "com/example/brelok/brelok/perf/TallyFailedToExcludePinLaw" (some 0) with
  accessFlags := 49
  interfaces := #[]
  cf := some (fileOf pool1 36 #[] #[{ accessFlags := 1, nameIndex := 5, descriptorIndex := 6, attributes := #[] }, { accessFlags := 9, nameIndex := 40, descriptorIndex := 41, attributes := #[] }] 49 2 #[] #[])
  fields := #[]
  methods := #[k1m0, k1m1]
  instanceTypes := #[]
  staticTypes := #[]
  resolved := Array.replicate 51 none
  statics := none }

def pool2 : Array CpInfo := pool [(1, .methodref 2 3), (0, .class_ 4), (0, .nameAndType 5 6), (0, u "java/lang/Object"), (0, u "<init>"), (0, u "()V"), (0, .class_ 8), (0, u "java/lang/Record")] 13

def k2c0 : Code := { maxStack := 1, maxLocals := 1, code := jdk_30_method_1_code, exceptionTable := #[], attributes := #[] }
def k2m0 : Method := { name := "<init>", desc := "()V", sig := { parameters := [], returnType := none }, accessFlags := 4, code := some k2c0 }
/-- java/lang/Record -/
def k2 : Class := { plain "java/lang/Record" (some 0) with
  accessFlags := 1057
  interfaces := #[]
  cf := some (fileOf pool2 7 #[] #[{ accessFlags := 4, nameIndex := 5, descriptorIndex := 6, attributes := #[] }] 1057 2 #[] #[])
  fields := #[]
  methods := #[k2m0]
  instanceTypes := #[]
  staticTypes := #[]
  resolved := Array.replicate 22 none
  statics := none }

def pool3 : Array CpInfo := pool [(1, .methodref 2 3), (0, .class_ 4), (0, .nameAndType 5 6), (0, u "java/lang/Record"), (0, u "<init>"), (0, u "()V"), (0, .fieldref 8 9), (0, .class_ 10), (0, .nameAndType 11 12), (0, u "com/example/brelok/brelok/perf/Timing$Measure"), (0, u "figure"), (0, u "D"), (0, .fieldref 8 14), (0, .nameAndType 15 16), (0, u "overlaps"), (0, u "J"), (0, .fieldref 8 18), (0, .nameAndType 19 16), (0, u "lostUpdates"), (12, u "(DJJ)V"), (6, u "()D"), (0, u "()J"), (3, .class_ 45), (0, u "com/example/brelok/brelok/perf/Timing")] 21

def k3c0 : Code := { maxStack := 3, maxLocals := 7, code := prog_37_method_1_code, exceptionTable := #[], attributes := #[] }
def k3m0 : Method := { name := "<init>", desc := "(DJJ)V", sig := { parameters := [.double, .long, .long], returnType := none }, accessFlags := 0, code := some k3c0 }
def k3c1 : Code := { maxStack := 2, maxLocals := 1, code := prog_37_method_5_code, exceptionTable := #[], attributes := #[] }
def k3m1 : Method := { name := "figure", desc := "()D", sig := { parameters := [], returnType := some .double }, accessFlags := 1, code := some k3c1 }
def k3c2 : Code := { maxStack := 2, maxLocals := 1, code := prog_37_method_6_code, exceptionTable := #[], attributes := #[] }
def k3m2 : Method := { name := "overlaps", desc := "()J", sig := { parameters := [], returnType := some .long }, accessFlags := 1, code := some k3c2 }
def k3c3 : Code := { maxStack := 2, maxLocals := 1, code := prog_37_method_7_code, exceptionTable := #[], attributes := #[] }
def k3m3 : Method := { name := "lostUpdates", desc := "()J", sig := { parameters := [], returnType := some .long }, accessFlags := 1, code := some k3c3 }
/-- com/example/brelok/brelok/perf/Timing$Measure -/
def k3 : Class := { plain "com/example/brelok/brelok/perf/Timing$Measure" (some 2) with
  accessFlags := 48
  interfaces := #[]
  cf := some (fileOf pool3 8 #[.nestHost 44] #[{ accessFlags := 0, nameIndex := 5, descriptorIndex := 32, attributes := #[] }, { accessFlags := 1, nameIndex := 11, descriptorIndex := 39, attributes := #[] }, { accessFlags := 1, nameIndex := 15, descriptorIndex := 40, attributes := #[] }, { accessFlags := 1, nameIndex := 19, descriptorIndex := 40, attributes := #[] }] 48 2 #[] #[{ accessFlags := 18, nameIndex := 11, descriptorIndex := 12, attributes := #[] }, { accessFlags := 18, nameIndex := 15, descriptorIndex := 16, attributes := #[] }, { accessFlags := 18, nameIndex := 19, descriptorIndex := 16, attributes := #[] }])
  fields := #[{ name := "figure", type := .double, accessFlags := 18, slot := 0, constantValue := 0 }, { name := "overlaps", type := .long, accessFlags := 18, slot := 1, constantValue := 0 }, { name := "lostUpdates", type := .long, accessFlags := 18, slot := 2, constantValue := 0 }]
  methods := #[k3m0, k3m1, k3m2, k3m3]
  instanceTypes := #[.double, .long, .long]
  staticTypes := #[]
  resolved := Array.replicate 67 none
  statics := none }

def pool4 : Array CpInfo := pool [(1, .methodref 2 3), (0, .class_ 4), (0, .nameAndType 5 6), (0, u "java/lang/Object"), (0, u "<init>"), (0, u "()V"), (0, .class_ 8), (0, u "java/util/ArrayList"), (0, .methodref 7 3), (0, .fieldref 11 12), (0, .class_ 13), (0, .nameAndType 14 15), (0, u "com/example/brelok/brelok/perf/Tally"), (0, u "solo"), (0, u "Ljava/util/List;"), (0, .fieldref 11 17), (0, .nameAndType 18 15), (0, u "contended"), (0, .fieldref 11 20), (0, .nameAndType 21 22), (0, u "name"), (0, u "Ljava/lang/String;"), (0, .fieldref 11 24), (0, .nameAndType 25 26), (0, u "excludes"), (0, u "Z"), (0, .methodref 28 29), (0, .class_ 30), (0, .nameAndType 31 32), (0, u "java/lang/Double"), (0, u "valueOf"), (0, u "(D)Ljava/lang/Double;"), (0, .interfaceMethodref 34 35), (0, .class_ 36), (0, .nameAndType 37 38), (0, u "java/util/List"), (0, u "add"), (0, u "(Ljava/lang/Object;)Z"), (0, .methodref 40 41), (0, .class_ 42), (0, .nameAndType 43 44), (0, u "com/example/brelok/brelok/perf/Timing$Measure"), (0, u "figure"), (0, u "()D"), (0, .methodref 11 46), (0, .nameAndType 47 48), (0, u "addExclusion"), (0, u "(Lcom/example/brelok/brelok/perf/Timing$Measure;)V"), (0, .fieldref 11 50), (0, .nameAndType 51 52), (0, u "waiting"), (0, u "D"), (0, .fieldref 11 54), (0, .nameAndType 55 56), (0, u "overlaps"), (0, u "J"), (0, .fieldref 11 58), (0, .nameAndType 59 56), (0, u "lostUpdates"), (21, u "()J"), (26, .methodref 40 109), (0, .nameAndType 55 81), (0, .methodref 40 111), (0, .nameAndType 59 81), (54, u "(Ljava/lang/String;Z)V"), (2, u "()Z"), (2, u "addContended"), (0, u "setWaiting"), (0, u "failedToExclude")] 28

def k4c0 : Code := { maxStack := 3, maxLocals := 3, code := prog_34_method_1_code, exceptionTable := #[], attributes := #[] }
def k4m0 : Method := { name := "<init>", desc := "(Ljava/lang/String;Z)V", sig := { parameters := [(.object "java/lang/String"), .boolean], returnType := none }, accessFlags := 0, code := some k4c0 }
def k4c1 : Code := { maxStack := 3, maxLocals := 2, code := prog_34_method_5_code, exceptionTable := #[], attributes := #[] }
def k4m1 : Method := { name := "addContended", desc := "(Lcom/example/brelok/brelok/perf/Timing$Measure;)V", sig := { parameters := [(.object "com/example/brelok/brelok/perf/Timing$Measure")], returnType := none }, accessFlags := 0, code := some k4c1 }
def k4c2 : Code := { maxStack := 3, maxLocals := 2, code := prog_34_method_6_code, exceptionTable := #[], attributes := #[] }
def k4m2 : Method := { name := "setWaiting", desc := "(Lcom/example/brelok/brelok/perf/Timing$Measure;)V", sig := { parameters := [(.object "com/example/brelok/brelok/perf/Timing$Measure")], returnType := none }, accessFlags := 0, code := some k4c2 }
def k4c3 : Code := { maxStack := 4, maxLocals := 1, code := prog_34_method_7_code, exceptionTable := #[], attributes := #[] }
def k4m3 : Method := { name := "failedToExclude", desc := "()Z", sig := { parameters := [], returnType := some .boolean }, accessFlags := 0, code := some k4c3 }
def k4c4 : Code := { maxStack := 5, maxLocals := 2, code := prog_34_method_14_code, exceptionTable := #[], attributes := #[] }
def k4m4 : Method := { name := "addExclusion", desc := "(Lcom/example/brelok/brelok/perf/Timing$Measure;)V", sig := { parameters := [(.object "com/example/brelok/brelok/perf/Timing$Measure")], returnType := none }, accessFlags := 2, code := some k4c4 }
/-- com/example/brelok/brelok/perf/Tally -/
def k4 : Class := { plain "com/example/brelok/brelok/perf/Tally" (some 0) with
  accessFlags := 32
  interfaces := #[]
  cf := some (fileOf pool4 11 #[] #[{ accessFlags := 0, nameIndex := 5, descriptorIndex := 166, attributes := #[] }, { accessFlags := 0, nameIndex := 172, descriptorIndex := 48, attributes := #[] }, { accessFlags := 0, nameIndex := 173, descriptorIndex := 48, attributes := #[] }, { accessFlags := 0, nameIndex := 174, descriptorIndex := 169, attributes := #[] }, { accessFlags := 2, nameIndex := 47, descriptorIndex := 48, attributes := #[] }] 32 2 #[] #[{ accessFlags := 18, nameIndex := 21, descriptorIndex := 22, attributes := #[] }, { accessFlags := 18, nameIndex := 25, descriptorIndex := 26, attributes := #[] }, { accessFlags := 18, nameIndex := 14, descriptorIndex := 15, attributes := #[] }, { accessFlags := 18, nameIndex := 18, descriptorIndex := 15, attributes := #[] }, { accessFlags := 2, nameIndex := 51, descriptorIndex := 52, attributes := #[] }, { accessFlags := 2, nameIndex := 55, descriptorIndex := 56, attributes := #[] }, { accessFlags := 2, nameIndex := 59, descriptorIndex := 56, attributes := #[] }])
  fields := #[{ name := "name", type := (.object "java/lang/String"), accessFlags := 18, slot := 0, constantValue := 0 }, { name := "excludes", type := .boolean, accessFlags := 18, slot := 1, constantValue := 0 }, { name := "solo", type := (.object "java/util/List"), accessFlags := 18, slot := 2, constantValue := 0 }, { name := "contended", type := (.object "java/util/List"), accessFlags := 18, slot := 3, constantValue := 0 }, { name := "waiting", type := .double, accessFlags := 2, slot := 4, constantValue := 0 }, { name := "overlaps", type := .long, accessFlags := 2, slot := 5, constantValue := 0 }, { name := "lostUpdates", type := .long, accessFlags := 2, slot := 6, constantValue := 0 }]
  methods := #[k4m0, k4m1, k4m2, k4m3, k4m4]
  instanceTypes := #[(.object "java/lang/String"), .boolean, (.object "java/util/List"), (.object "java/util/List"), .double, .long, .long]
  staticTypes := #[]
  resolved := Array.replicate 203 none
  statics := none }

def pool5 : Array CpInfo := pool [(1, .class_ 2), (0, u "java/io/Serializable"), (0, .class_ 4), (0, u "java/lang/Object")] 2

/-- java/io/Serializable -/
def k5 : Class := { plain "java/io/Serializable" (some 0) with
  accessFlags := 1537
  interfaces := #[]
  cf := some (fileOf pool5 1 #[] #[] 1537 3 #[] #[])
  fields := #[]
  methods := #[]
  instanceTypes := #[]
  staticTypes := #[]
  resolved := Array.replicate 7 none
  statics := none }

def pool6 : Array CpInfo := pool [(1, .class_ 2), (0, u "java/lang/Comparable"), (0, .class_ 4), (0, u "java/lang/Object")] 7

/-- java/lang/Comparable -/
def k6 : Class := { plain "java/lang/Comparable" (some 0) with
  accessFlags := 1537
  interfaces := #[]
  cf := some (fileOf pool6 1 #[] #[] 1537 3 #[] #[])
  fields := #[]
  methods := #[]
  instanceTypes := #[]
  staticTypes := #[]
  resolved := Array.replicate 12 none
  statics := none }

def pool7 : Array CpInfo := pool [(2, .class_ 4), (1, u "java/lang/CharSequence"), (42, .class_ 48), (0, u "java/lang/CharSequence$1CodePointIterator"), (10, .class_ 60), (0, u "java/lang/CharSequence$1CharIterator"), (5, .class_ 67), (0, u "java/lang/Object")] 63

/-- java/lang/CharSequence -/
def k7 : Class := { plain "java/lang/CharSequence" (some 0) with
  accessFlags := 1537
  interfaces := #[]
  cf := some (fileOf pool7 2 #[.nestMembers #[47, 59]] #[] 1537 66 #[] #[])
  fields := #[]
  methods := #[]
  instanceTypes := #[]
  staticTypes := #[]
  resolved := Array.replicate 131 none
  statics := none }

def pool8 : Array CpInfo := pool [(1, .class_ 2), (0, u "java/lang/constant/Constable"), (0, .class_ 4), (0, u "java/lang/Object")] 6

/-- java/lang/constant/Constable -/
def k8 : Class := { plain "java/lang/constant/Constable" (some 0) with
  accessFlags := 1537
  interfaces := #[]
  cf := some (fileOf pool8 1 #[] #[] 1537 3 #[] #[])
  fields := #[]
  methods := #[]
  instanceTypes := #[]
  staticTypes := #[]
  resolved := Array.replicate 11 none
  statics := none }

def pool9 : Array CpInfo := pool [(1, .class_ 2), (0, u "java/lang/constant/ConstantDesc"), (0, .class_ 4), (0, u "java/lang/Object")] 32

/-- java/lang/constant/ConstantDesc -/
def k9 : Class := { plain "java/lang/constant/ConstantDesc" (some 0) with
  accessFlags := 1537
  interfaces := #[]
  cf := some (fileOf pool9 1 #[] #[] 1537 3 #[] #[])
  fields := #[]
  methods := #[]
  instanceTypes := #[]
  staticTypes := #[]
  resolved := Array.replicate 37 none
  statics := none }

def pool10 : Array CpInfo := pool [(1, .methodref 2 3), (0, .class_ 4), (0, .nameAndType 5 6), (0, u "java/lang/Object"), (0, u "<init>"), (0, u "()V"), (2, .fieldref 10 11), (0, .class_ 12), (0, .nameAndType 13 14), (0, u "java/lang/String"), (0, u "value"), (0, u "[B"), (0, .fieldref 10 16), (0, .nameAndType 17 18), (0, u "coder"), (0, u "B"), (2, u "hash"), (0, u "I"), (2, u "hashIsZero"), (0, u "Z"), (0, .methodref 10 28), (0, .nameAndType 5 29), (0, u "([CIILjava/lang/Void;)V"), (8, .fieldref 10 39), (0, .nameAndType 40 26), (0, u "COMPACT_STRINGS"), (1, .class_ 44), (1, u "java/lang/StringUTF16"), (0, u "compress"), (1, .methodref 42 48), (0, .nameAndType 49 50), (0, u "coderFromArrayLen"), (0, u "([BI)B"), (126, .methodref 42 178), (0, .nameAndType 45 179), (0, u "([CII)[B"), (395, .class_ 576), (0, u "java/lang/CharSequence"), (22, u "CASE_INSENSITIVE_ORDER"), (0, u "Ljava/util/Comparator;"), (409, u "([C)V"), (90, u "serialPersistentFields"), (0, u "[Ljava/io/ObjectStreamField;"), (0, .class_ 1104), (0, u "java/lang/String$CaseInsensitiveComparator"), (1, .class_ 1107), (0, u "java/io/Serializable"), (0, .class_ 1109), (0, u "java/lang/Comparable"), (0, .class_ 1111), (0, u "java/lang/constant/Constable"), (0, .class_ 1113), (0, u "java/lang/constant/ConstantDesc"), (2, u "serialVersionUID"), (0, u "J"), (3, u "REPL"), (0, u "C"), (2, u "LATIN1"), (1, u "UTF16")] 323

def k10m0 : Method := { name := "<init>", desc := "()V", sig := { parameters := [], returnType := none }, accessFlags := 1, code := none }
def k10c1 : Code := { maxStack := 5, maxLocals := 2, code := jdk_42_method_3_code, exceptionTable := #[], attributes := #[] }
def k10m1 : Method := { name := "<init>", desc := "([C)V", sig := { parameters := [(.array .char)], returnType := none }, accessFlags := 1, code := some k10c1 }
def k10c2 : Code := { maxStack := 4, maxLocals := 6, code := jdk_42_method_149_code, exceptionTable := #[], attributes := #[] }
def k10m2 : Method := { name := "<init>", desc := "([CIILjava/lang/Void;)V", sig := { parameters := [(.array .char), .int, .int, (.object "java/lang/Void")], returnType := none }, accessFlags := 2, code := some k10c2 }
/-- java/lang/String -/
def k10 : Class := { plain "java/lang/String" (some 0) with
  accessFlags := 49
  interfaces := #[5, 6, 7, 8, 9]
  cf := some (fileOf pool10 10 #[.nestMembers #[1103]] #[{ accessFlags := 1, nameIndex := 5, descriptorIndex := 6, attributes := #[] }, { accessFlags := 1, nameIndex := 5, descriptorIndex := 1010, attributes := #[] }, { accessFlags := 2, nameIndex := 5, descriptorIndex := 29, attributes := #[] }] 49 2 #[1106, 1108, 575, 1110, 1112] #[{ accessFlags := 18, nameIndex := 13, descriptorIndex := 14, attributes := #[] }, { accessFlags := 18, nameIndex := 17, descriptorIndex := 18, attributes := #[] }, { accessFlags := 2, nameIndex := 21, descriptorIndex := 22, attributes := #[] }, { accessFlags := 2, nameIndex := 25, descriptorIndex := 26, attributes := #[] }, { accessFlags := 26, nameIndex := 1116, descriptorIndex := 1117, attributes := #[] }, { accessFlags := 24, nameIndex := 40, descriptorIndex := 26, attributes := #[] }, { accessFlags := 26, nameIndex := 1101, descriptorIndex := 1102, attributes := #[] }, { accessFlags := 26, nameIndex := 1121, descriptorIndex := 1122, attributes := #[] }, { accessFlags := 25, nameIndex := 599, descriptorIndex := 600, attributes := #[] }, { accessFlags := 24, nameIndex := 1125, descriptorIndex := 18, attributes := #[] }, { accessFlags := 24, nameIndex := 1127, descriptorIndex := 18, attributes := #[] }])
  fields := #[{ name := "value", type := (.array .byte), accessFlags := 18, slot := 0, constantValue := 0 }, { name := "coder", type := .byte, accessFlags := 18, slot := 1, constantValue := 0 }, { name := "hash", type := .int, accessFlags := 2, slot := 2, constantValue := 0 }, { name := "hashIsZero", type := .boolean, accessFlags := 2, slot := 3, constantValue := 0 }, { name := "serialVersionUID", type := .long, accessFlags := 26, slot := 0, constantValue := 0 }, { name := "COMPACT_STRINGS", type := .boolean, accessFlags := 24, slot := 1, constantValue := 0 }, { name := "serialPersistentFields", type := (.array (.object "java/io/ObjectStreamField")), accessFlags := 26, slot := 2, constantValue := 0 }, { name := "REPL", type := .char, accessFlags := 26, slot := 3, constantValue := 0 }, { name := "CASE_INSENSITIVE_ORDER", type := (.object "java/util/Comparator"), accessFlags := 25, slot := 4, constantValue := 0 }, { name := "LATIN1", type := .byte, accessFlags := 24, slot := 5, constantValue := 0 }, { name := "UTF16", type := .byte, accessFlags := 24, slot := 6, constantValue := 0 }]
  methods := #[k10m0, k10m1, k10m2]
  instanceTypes := #[(.array .byte), .byte, .int, .boolean]
  staticTypes := #[.long, .boolean, (.array (.object "java/io/ObjectStreamField")), .char, (.object "java/util/Comparator"), .byte, .byte]
  resolved := Array.replicate 1451 none
  statics := some 0 }

def pool11 : Array CpInfo := pool [(6, .class_ 8), (1, u "java/lang/Object"), (0, u "<init>"), (0, u "()V"), (1, .class_ 14), (1, u "java/lang/StringUTF16"), (31, u "$assertionsDisabled"), (0, u "Z"), (13, u "HI_BYTE_SHIFT"), (0, u "I"), (2, u "LO_BYTE_SHIFT"), (49, .methodref 12 116), (0, .nameAndType 117 118), (0, u "compress"), (0, u "([CI[BII)I"), (3, u "([CII)[B"), (138, u "coderFromArrayLen"), (0, u "([BI)B"), (106, .class_ 371), (1, u "java/lang/StringUTF16$LinesSpliterator"), (58, u "MAX_LENGTH"), (196, .class_ 628), (0, u "java/lang/StringUTF16$CodePointsSpliterator"), (0, .class_ 630), (0, u "java/lang/StringUTF16$CharsSpliterator")] 4

def k11m0 : Method := { name := "<init>", desc := "()V", sig := { parameters := [], returnType := none }, accessFlags := 0, code := none }
def k11c1 : Code := { maxStack := 2, maxLocals := 2, code := jdk_52_method_15_code, exceptionTable := #[], attributes := #[] }
def k11m1 : Method := { name := "coderFromArrayLen", desc := "([BI)B", sig := { parameters := [(.array .byte), .int], returnType := some .byte }, accessFlags := 8, code := some k11c1 }
def k11c2 : Code := { maxStack := 5, maxLocals := 6, code := jdk_52_method_16_code, exceptionTable := #[], attributes := #[] }
def k11m2 : Method := { name := "compress", desc := "([CII)[B", sig := { parameters := [(.array .char), .int, .int], returnType := some (.array .byte) }, accessFlags := 9, code := some k11c2 }
def k11c3 : Code := { maxStack := 3, maxLocals := 7, code := jdk_52_method_21_code, exceptionTable := #[], attributes := #[] }
def k11m3 : Method := { name := "compress", desc := "([CI[BII)I", sig := { parameters := [(.array .char), .int, (.array .byte), .int, .int], returnType := some .int }, accessFlags := 9, code := some k11c3 }
/-- java/lang/StringUTF16 -/
def k11 : Class := { plain "java/lang/StringUTF16" (some 0) with
  accessFlags := 48
  interfaces := #[]
  cf := some (fileOf pool11 12 #[.nestMembers #[627, 629, 369]] #[{ accessFlags := 0, nameIndex := 9, descriptorIndex := 10, attributes := #[] }, { accessFlags := 8, nameIndex := 261, descriptorIndex := 262, attributes := #[] }, { accessFlags := 9, nameIndex := 117, descriptorIndex := 122, attributes := #[] }, { accessFlags := 9, nameIndex := 117, descriptorIndex := 118, attributes := #[] }] 48 6 #[] #[{ accessFlags := 26, nameIndex := 61, descriptorIndex := 62, attributes := #[] }, { accessFlags := 26, nameIndex := 65, descriptorIndex := 62, attributes := #[] }, { accessFlags := 24, nameIndex := 430, descriptorIndex := 62, attributes := #[] }, { accessFlags := 4120, nameIndex := 46, descriptorIndex := 47, attributes := #[] }])
  fields := #[{ name := "HI_BYTE_SHIFT", type := .int, accessFlags := 26, slot := 0, constantValue := 0 }, { name := "LO_BYTE_SHIFT", type := .int, accessFlags := 26, slot := 1, constantValue := 0 }, { name := "MAX_LENGTH", type := .int, accessFlags := 24, slot := 2, constantValue := 0 }, { name := "$assertionsDisabled", type := .boolean, accessFlags := 4120, slot := 3, constantValue := 0 }]
  methods := #[k11m0, k11m1, k11m2, k11m3]
  instanceTypes := #[]
  staticTypes := #[.int, .int, .int, .boolean]
  resolved := Array.replicate 635 none
  statics := none }

def pool12 : Array CpInfo := pool [(8, .class_ 10), (1, u "java/lang/Iterable"), (24, .class_ 36), (0, u "java/lang/Object")] 25

/-- java/lang/Iterable -/
def k12 : Class := { plain "java/lang/Iterable" (some 0) with
  accessFlags := 1537
  interfaces := #[]
  cf := some (fileOf pool12 8 #[] #[] 1537 35 #[] #[])
  fields := #[]
  methods := #[]
  instanceTypes := #[]
  staticTypes := #[]
  resolved := Array.replicate 62 none
  statics := none }

def pool13 : Array CpInfo := pool [(10, .class_ 12), (1, u "java/util/Collection"), (47, .class_ 61), (0, u "java/lang/Object"), (0, .class_ 63), (0, u "java/lang/Iterable")] 51

/-- java/util/Collection -/
def k13 : Class := { plain "java/util/Collection" (some 0) with
  accessFlags := 1537
  interfaces := #[12]
  cf := some (fileOf pool13 10 #[] #[] 1537 60 #[62] #[])
  fields := #[]
  methods := #[]
  instanceTypes := #[]
  staticTypes := #[]
  resolved := Array.replicate 115 none
  statics := none }

def pool14 : Array CpInfo := pool [(1, .methodref 2 3), (0, .class_ 4), (0, .nameAndType 5 6), (0, u "java/lang/Object"), (0, u "<init>"), (0, u "()V"), (1, .class_ 10), (1, u "java/util/AbstractCollection"), (66, .class_ 78), (0, u "java/util/Collection")] 81

def k14c0 : Code := { maxStack := 1, maxLocals := 1, code := jdk_22_method_1_code, exceptionTable := #[], attributes := #[] }
def k14m0 : Method := { name := "<init>", desc := "()V", sig := { parameters := [], returnType := none }, accessFlags := 4, code := some k14c0 }
/-- java/util/AbstractCollection -/
def k14 : Class := { plain "java/util/AbstractCollection" (some 0) with
  accessFlags := 1057
  interfaces := #[13]
  cf := some (fileOf pool14 8 #[] #[{ accessFlags := 4, nameIndex := 5, descriptorIndex := 6, attributes := #[] }] 1057 2 #[77] #[])
  fields := #[]
  methods := #[k14m0]
  instanceTypes := #[]
  staticTypes := #[]
  resolved := Array.replicate 160 none
  statics := none }

def pool15 : Array CpInfo := pool [(8, .class_ 10), (1, u "java/util/SequencedCollection"), (15, .class_ 27), (0, u "java/lang/Object"), (0, .class_ 29), (0, u "java/util/Collection")] 27

/-- java/util/SequencedCollection -/
def k15 : Class := { plain "java/util/SequencedCollection" (some 0) with
  accessFlags := 1537
  interfaces := #[13]
  cf := some (fileOf pool15 8 #[] #[] 1537 26 #[28] #[])
  fields := #[]
  methods := #[]
  instanceTypes := #[]
  staticTypes := #[]
  resolved := Array.replicate 57 none
  statics := none }

def pool16 : Array CpInfo := pool [(8, .class_ 10), (1, u "java/util/List"), (49, u "add"), (3, u "(Ljava/lang/Object;)Z"), (38, .class_ 104), (0, u "java/lang/Object"), (15, .class_ 121), (0, u "java/util/SequencedCollection")] 129

def k16m0 : Method := { name := "add", desc := "(Ljava/lang/Object;)Z", sig := { parameters := [(.object "java/lang/Object")], returnType := some .boolean }, accessFlags := 1025, code := none }
/-- java/util/List -/
def k16 : Class := { plain "java/util/List" (some 0) with
  accessFlags := 1537
  interfaces := #[15]
  cf := some (fileOf pool16 8 #[] #[{ accessFlags := 1025, nameIndex := 60, descriptorIndex := 64, attributes := #[] }] 1537 103 #[120] #[])
  fields := #[]
  methods := #[k16m0]
  instanceTypes := #[]
  staticTypes := #[]
  resolved := Array.replicate 251 none
  statics := none }

def pool17 : Array CpInfo := pool [(1, .methodref 2 3), (0, .class_ 4), (0, .nameAndType 5 6), (0, u "java/util/AbstractCollection"), (0, u "<init>"), (0, u "()V"), (0, .fieldref 8 9), (0, .class_ 10), (0, .nameAndType 11 12), (0, u "java/util/AbstractList"), (0, u "modCount"), (0, u "I"), (64, .class_ 78), (0, u "java/util/AbstractList$Itr"), (3, .class_ 83), (0, u "java/util/AbstractList$ListItr"), (9, .class_ 94), (0, u "java/util/AbstractList$RandomAccessSubList"), (3, .class_ 99), (0, u "java/util/AbstractList$SubList"), (33, .class_ 134), (0, u "java/util/List"), (73, .class_ 209), (0, u "java/util/AbstractList$SubList$1"), (0, .class_ 211), (0, u "java/util/AbstractList$RandomAccessSpliterator")] 6

def k17c0 : Code := { maxStack := 2, maxLocals := 1, code := jdk_39_method_1_code, exceptionTable := #[], attributes := #[] }
def k17m0 : Method := { name := "<init>", desc := "()V", sig := { parameters := [], returnType := none }, accessFlags := 4, code := some k17c0 }
/-- java/util/AbstractList -/
def k17 : Class := { plain "java/util/AbstractList" (some 14) with
  accessFlags := 1057
  interfaces := #[16]
  cf := some (fileOf pool17 8 #[.nestMembers #[93, 98, 208, 210, 82, 77]] #[{ accessFlags := 4, nameIndex := 5, descriptorIndex := 6, attributes := #[] }] 1057 2 #[133] #[{ accessFlags := 132, nameIndex := 11, descriptorIndex := 12, attributes := #[] }])
  fields := #[{ name := "modCount", type := .int, accessFlags := 132, slot := 0, constantValue := 0 }]
  methods := #[k17m0]
  instanceTypes := #[.int]
  staticTypes := #[]
  resolved := Array.replicate 218 none
  statics := none }

def pool18 : Array CpInfo := pool [(1, .class_ 2), (0, u "java/util/RandomAccess"), (0, .class_ 4), (0, u "java/lang/Object")] 2

/-- java/util/RandomAccess -/
def k18 : Class := { plain "java/util/RandomAccess" (some 0) with
  accessFlags := 1537
  interfaces := #[]
  cf := some (fileOf pool18 1 #[] #[] 1537 3 #[] #[])
  fields := #[]
  methods := #[]
  instanceTypes := #[]
  staticTypes := #[]
  resolved := Array.replicate 7 none
  statics := none }

def pool19 : Array CpInfo := pool [(1, .class_ 2), (0, u "java/lang/Cloneable"), (0, .class_ 4), (0, u "java/lang/Object")] 2

/-- java/lang/Cloneable -/
def k19 : Class := { plain "java/lang/Cloneable" (some 0) with
  accessFlags := 1537
  interfaces := #[]
  cf := some (fileOf pool19 1 #[] #[] 1537 3 #[] #[])
  fields := #[]
  methods := #[]
  instanceTypes := #[]
  staticTypes := #[]
  resolved := Array.replicate 7 none
  statics := none }

def pool20 : Array CpInfo := pool [(1, .methodref 2 3), (0, .class_ 4), (0, .nameAndType 5 6), (0, u "java/util/AbstractList"), (0, u "<init>"), (0, u "()V"), (0, .class_ 8), (0, u "java/lang/Object"), (0, .fieldref 10 11), (0, .class_ 12), (0, .nameAndType 13 14), (0, u "java/util/ArrayList"), (0, u "elementData"), (0, u "[Ljava/lang/Object;"), (2, u "EMPTY_ELEMENTDATA"), (21, .fieldref 10 40), (0, .nameAndType 41 14), (0, u "DEFAULTCAPACITY_EMPTY_ELEMENTDATA"), (5, u "()[Ljava/lang/Object;"), (0, .fieldref 10 49), (0, .nameAndType 50 51), (0, u "size"), (0, u "I"), (11, .fieldref 10 64), (0, .nameAndType 65 51), (0, u "modCount"), (3, .methodref 10 70), (0, .nameAndType 71 72), (0, u "grow"), (0, u "(I)[Ljava/lang/Object;"), (6, .methodref 80 81), (0, .class_ 82), (0, .nameAndType 83 84), (0, u "java/lang/Math"), (0, u "max"), (0, u "(II)I"), (11, u "(Ljava/lang/Object;)Z"), (32, .methodref 10 130), (0, .nameAndType 71 47), (0, .methodref 10 132), (0, .nameAndType 133 134), (0, u "add"), (0, u "(Ljava/lang/Object;[Ljava/lang/Object;I)V"), (13, .class_ 149), (0, u "java/util/List"), (112, .class_ 263), (0, u "java/util/ArrayList$ListItr"), (3, .class_ 268), (0, u "java/util/ArrayList$Itr"), (7, .class_ 277), (0, u "java/util/ArrayList$SubList"), (12, .class_ 291), (0, u "java/util/ArrayList$ArrayListSpliterator"), (37, .class_ 330), (0, u "java/util/RandomAccess"), (0, .class_ 332), (0, u "java/lang/Cloneable"), (0, .class_ 334), (0, u "java/io/Serializable"), (0, u "serialVersionUID"), (0, u "J"), (3, u "DEFAULT_CAPACITY"), (159, .class_ 501), (0, u "java/util/ArrayList$SubList$2"), (0, .class_ 503), (0, u "java/util/ArrayList$SubList$1")] 5

def k20c0 : Code := { maxStack := 2, maxLocals := 1, code := jdk_38_method_2_code, exceptionTable := #[], attributes := #[] }
def k20m0 : Method := { name := "<init>", desc := "()V", sig := { parameters := [], returnType := none }, accessFlags := 1, code := some k20c0 }
def k20c1 : Code := { maxStack := 4, maxLocals := 4, code := jdk_38_method_6_code, exceptionTable := #[], attributes := #[] }
def k20m1 : Method := { name := "grow", desc := "(I)[Ljava/lang/Object;", sig := { parameters := [.int], returnType := some (.array (.object "java/lang/Object")) }, accessFlags := 2, code := some k20c1 }
def k20c2 : Code := { maxStack := 3, maxLocals := 1, code := jdk_38_method_7_code, exceptionTable := #[], attributes := #[] }
def k20m2 : Method := { name := "grow", desc := "()[Ljava/lang/Object;", sig := { parameters := [], returnType := some (.array (.object "java/lang/Object")) }, accessFlags := 2, code := some k20c2 }
def k20c3 : Code := { maxStack := 3, maxLocals := 4, code := jdk_38_method_24_code, exceptionTable := #[], attributes := #[] }
def k20m3 : Method := { name := "add", desc := "(Ljava/lang/Object;[Ljava/lang/Object;I)V", sig := { parameters := [(.object "java/lang/Object"), (.array (.object "java/lang/Object")), .int], returnType := none }, accessFlags := 2, code := some k20c3 }
def k20c4 : Code := { maxStack := 4, maxLocals := 2, code := jdk_38_method_25_code, exceptionTable := #[], attributes := #[] }
def k20m4 : Method := { name := "add", desc := "(Ljava/lang/Object;)Z", sig := { parameters := [(.object "java/lang/Object")], returnType := some .boolean }, accessFlags := 1, code := some k20c4 }
/-- java/util/ArrayList -/
def k20 : Class := { plain "java/util/ArrayList" (some 17) with
  accessFlags := 33
  interfaces := #[16, 18, 19, 5]
  cf := some (fileOf pool20 10 #[.nestMembers #[290, 276, 500, 502, 262, 267]] #[{ accessFlags := 1, nameIndex := 5, descriptorIndex := 6, attributes := #[] }, { accessFlags := 2, nameIndex := 71, descriptorIndex := 72, attributes := #[] }, { accessFlags := 2, nameIndex := 71, descriptorIndex := 47, attributes := #[] }, { accessFlags := 2, nameIndex := 133, descriptorIndex := 134, attributes := #[] }, { accessFlags := 1, nameIndex := 133, descriptorIndex := 96, attributes := #[] }] 33 2 #[148, 329, 331, 333] #[{ accessFlags := 26, nameIndex := 335, descriptorIndex := 336, attributes := #[] }, { accessFlags := 26, nameIndex := 340, descriptorIndex := 51, attributes := #[] }, { accessFlags := 26, nameIndex := 17, descriptorIndex := 14, attributes := #[] }, { accessFlags := 26, nameIndex := 41, descriptorIndex := 14, attributes := #[] }, { accessFlags := 128, nameIndex := 13, descriptorIndex := 14, attributes := #[] }, { accessFlags := 2, nameIndex := 50, descriptorIndex := 51, attributes := #[] }])
  fields := #[{ name := "serialVersionUID", type := .long, accessFlags := 26, slot := 0, constantValue := 0 }, { name := "DEFAULT_CAPACITY", type := .int, accessFlags := 26, slot := 1, constantValue := 0 }, { name := "EMPTY_ELEMENTDATA", type := (.array (.object "java/lang/Object")), accessFlags := 26, slot := 2, constantValue := 0 }, { name := "DEFAULTCAPACITY_EMPTY_ELEMENTDATA", type := (.array (.object "java/lang/Object")), accessFlags := 26, slot := 3, constantValue := 0 }, { name := "elementData", type := (.array (.object "java/lang/Object")), accessFlags := 128, slot := 1, constantValue := 0 }, { name := "size", type := .int, accessFlags := 2, slot := 2, constantValue := 0 }]
  methods := #[k20m0, k20m1, k20m2, k20m3, k20m4]
  instanceTypes := #[.int, (.array (.object "java/lang/Object")), .int]
  staticTypes := #[.long, .int, (.array (.object "java/lang/Object")), (.array (.object "java/lang/Object"))]
  resolved := Array.replicate 509 none
  statics := some 1 }

def pool21 : Array CpInfo := pool [(1, .methodref 2 3), (0, .class_ 4), (0, .nameAndType 5 6), (0, u "java/lang/Object"), (0, u "<init>"), (0, u "()V"), (1, .class_ 10), (1, u "java/lang/Number"), (2, .class_ 14), (0, u "java/io/Serializable"), (0, u "serialVersionUID"), (0, u "J")] 20

def k21c0 : Code := { maxStack := 1, maxLocals := 1, code := jdk_18_method_1_code, exceptionTable := #[], attributes := #[] }
def k21m0 : Method := { name := "<init>", desc := "()V", sig := { parameters := [], returnType := none }, accessFlags := 1, code := some k21c0 }
/-- java/lang/Number -/
def k21 : Class := { plain "java/lang/Number" (some 0) with
  accessFlags := 1057
  interfaces := #[5]
  cf := some (fileOf pool21 8 #[] #[{ accessFlags := 1, nameIndex := 5, descriptorIndex := 6, attributes := #[] }] 1057 2 #[13] #[{ accessFlags := 26, nameIndex := 15, descriptorIndex := 16, attributes := #[] }])
  fields := #[{ name := "serialVersionUID", type := .long, accessFlags := 26, slot := 0, constantValue := 0 }]
  methods := #[k21m0]
  instanceTypes := #[]
  staticTypes := #[.long]
  resolved := Array.replicate 37 none
  statics := none }

def pool22 : Array CpInfo := pool [(1, .class_ 2), (0, u "java/lang/Double"), (17, u "<init>"), (84, .methodref 1 106), (0, .nameAndType 20 107), (0, u "(D)V"), (5, .methodref 114 115), (0, .class_ 116), (0, .nameAndType 20 117), (0, u "java/lang/Number"), (0, u "()V"), (0, .fieldref 1 119), (0, .nameAndType 120 121), (0, u "value"), (0, u "D"), (51, u "TYPE"), (0, u "Ljava/lang/Class;"), (0, .class_ 176), (0, u "java/lang/Comparable"), (0, .class_ 178), (0, u "java/lang/constant/Constable"), (0, .class_ 180), (0, u "java/lang/constant/ConstantDesc"), (0, u "POSITIVE_INFINITY"), (3, u "NEGATIVE_INFINITY"), (2, u "NaN"), (2, u "MAX_VALUE"), (0, u "MIN_NORMAL"), (0, u "MIN_VALUE"), (2, u "SIZE"), (0, u "I"), (1, u "PRECISION"), (1, u "MAX_EXPONENT"), (1, u "MIN_EXPONENT"), (1, u "BYTES"), (3, u "serialVersionUID"), (0, u "J"), (14, u "valueOf"), (5, u "(D)Ljava/lang/Double;")] 58

def k22c0 : Code := { maxStack := 4, maxLocals := 2, code := jdk_117_method_4_code, exceptionTable := #[], attributes := #[] }
def k22m0 : Method := { name := "valueOf", desc := "(D)Ljava/lang/Double;", sig := { parameters := [.double], returnType := some (.object "java/lang/Double") }, accessFlags := 9, code := some k22c0 }
def k22c1 : Code := { maxStack := 3, maxLocals := 3, code := jdk_117_method_9_code, exceptionTable := #[], attributes := #[] }
def k22m1 : Method := { name := "<init>", desc := "(D)V", sig := { parameters := [.double], returnType := none }, accessFlags := 1, code := some k22c1 }
/-- java/lang/Double -/
def k22 : Class := { plain "java/lang/Double" (some 21) with
  accessFlags := 49
  interfaces := #[6, 8, 9]
  cf := some (fileOf pool22 1 #[] #[{ accessFlags := 9, nameIndex := 225, descriptorIndex := 231, attributes := #[] }, { accessFlags := 1, nameIndex := 20, descriptorIndex := 107, attributes := #[] }] 49 114 #[175, 177, 179] #[{ accessFlags := 25, nameIndex := 181, descriptorIndex := 121, attributes := #[] }, { accessFlags := 25, nameIndex := 185, descriptorIndex := 121, attributes := #[] }, { accessFlags := 25, nameIndex := 188, descriptorIndex := 121, attributes := #[] }, { accessFlags := 25, nameIndex := 191, descriptorIndex := 121, attributes := #[] }, { accessFlags := 25, nameIndex := 192, descriptorIndex := 121, attributes := #[] }, { accessFlags := 25, nameIndex := 193, descriptorIndex := 121, attributes := #[] }, { accessFlags := 25, nameIndex := 196, descriptorIndex := 197, attributes := #[] }, { accessFlags := 25, nameIndex := 199, descriptorIndex := 197, attributes := #[] }, { accessFlags := 25, nameIndex := 201, descriptorIndex := 197, attributes := #[] }, { accessFlags := 25, nameIndex := 203, descriptorIndex := 197, attributes := #[] }, { accessFlags := 25, nameIndex := 205, descriptorIndex := 197, attributes := #[] }, { accessFlags := 25, nameIndex := 173, descriptorIndex := 174, attributes := #[] }, { accessFlags := 18, nameIndex := 120, descriptorIndex := 121, attributes := #[] }, { accessFlags := 26, nameIndex := 209, descriptorIndex := 210, attributes := #[] }])
  fields := #[{ name := "POSITIVE_INFINITY", type := .double, accessFlags := 25, slot := 0, constantValue := 0 }, { name := "NEGATIVE_INFINITY", type := .double, accessFlags := 25, slot := 1, constantValue := 0 }, { name := "NaN", type := .double, accessFlags := 25, slot := 2, constantValue := 0 }, { name := "MAX_VALUE", type := .double, accessFlags := 25, slot := 3, constantValue := 0 }, { name := "MIN_NORMAL", type := .double, accessFlags := 25, slot := 4, constantValue := 0 }, { name := "MIN_VALUE", type := .double, accessFlags := 25, slot := 5, constantValue := 0 }, { name := "SIZE", type := .int, accessFlags := 25, slot := 6, constantValue := 0 }, { name := "PRECISION", type := .int, accessFlags := 25, slot := 7, constantValue := 0 }, { name := "MAX_EXPONENT", type := .int, accessFlags := 25, slot := 8, constantValue := 0 }, { name := "MIN_EXPONENT", type := .int, accessFlags := 25, slot := 9, constantValue := 0 }, { name := "BYTES", type := .int, accessFlags := 25, slot := 10, constantValue := 0 }, { name := "TYPE", type := (.object "java/lang/Class"), accessFlags := 25, slot := 11, constantValue := 0 }, { name := "value", type := .double, accessFlags := 18, slot := 0, constantValue := 0 }, { name := "serialVersionUID", type := .long, accessFlags := 26, slot := 12, constantValue := 0 }]
  methods := #[k22m0, k22m1]
  instanceTypes := #[.double]
  staticTypes := #[.double, .double, .double, .double, .double, .double, .int, .int, .int, .int, .int, (.object "java/lang/Class"), .long]
  resolved := Array.replicate 290 none
  statics := none }

def pool23 : Array CpInfo := pool [(1, .class_ 2), (0, u "java/lang/Math"), (1, .class_ 6), (1, u "java/lang/Object"), (0, u "<init>"), (0, u "()V"), (89, .class_ 100), (1, u "java/lang/Math$RandomNumberGeneratorHolder"), (71, u "negativeZeroFloatBits"), (0, u "J"), (2, u "negativeZeroDoubleBits"), (21, u "max"), (46, u "$assertionsDisabled"), (0, u "Z"), (88, u "(II)I"), (2, u "twoToTheDoubleScaleDown"), (0, u "D"), (4, u "twoToTheDoubleScaleUp"), (9, u "E"), (3, u "PI"), (2, u "TAU"), (2, u "DEGREES_TO_RADIANS"), (0, u "RADIANS_TO_DEGREES")] 94

def k23m0 : Method := { name := "<init>", desc := "()V", sig := { parameters := [], returnType := none }, accessFlags := 2, code := none }
def k23c1 : Code := { maxStack := 2, maxLocals := 2, code := jdk_29_method_65_code, exceptionTable := #[], attributes := #[] }
def k23m1 : Method := { name := "max", desc := "(II)I", sig := { parameters := [.int, .int], returnType := some .int }, accessFlags := 9, code := some k23c1 }
/-- java/lang/Math -/
def k23 : Class := { plain "java/lang/Math" (some 0) with
  accessFlags := 49
  interfaces := #[]
  cf := some (fileOf pool23 1 #[.nestMembers #[98]] #[{ accessFlags := 2, nameIndex := 7, descriptorIndex := 8, attributes := #[] }, { accessFlags := 9, nameIndex := 198, descriptorIndex := 335, attributes := #[] }] 49 4 #[] #[{ accessFlags := 25, nameIndex := 354, descriptorIndex := 339, attributes := #[] }, { accessFlags := 25, nameIndex := 358, descriptorIndex := 339, attributes := #[] }, { accessFlags := 25, nameIndex := 361, descriptorIndex := 339, attributes := #[] }, { accessFlags := 26, nameIndex := 364, descriptorIndex := 339, attributes := #[] }, { accessFlags := 26, nameIndex := 365, descriptorIndex := 339, attributes := #[] }, { accessFlags := 26, nameIndex := 172, descriptorIndex := 173, attributes := #[] }, { accessFlags := 26, nameIndex := 176, descriptorIndex := 173, attributes := #[] }, { accessFlags := 8, nameIndex := 344, descriptorIndex := 339, attributes := #[] }, { accessFlags := 8, nameIndex := 338, descriptorIndex := 339, attributes := #[] }, { accessFlags := 4120, nameIndex := 245, descriptorIndex := 246, attributes := #[] }])
  fields := #[{ name := "E", type := .double, accessFlags := 25, slot := 0, constantValue := 0 }, { name := "PI", type := .double, accessFlags := 25, slot := 1, constantValue := 0 }, { name := "TAU", type := .double, accessFlags := 25, slot := 2, constantValue := 0 }, { name := "DEGREES_TO_RADIANS", type := .double, accessFlags := 26, slot := 3, constantValue := 0 }, { name := "RADIANS_TO_DEGREES", type := .double, accessFlags := 26, slot := 4, constantValue := 0 }, { name := "negativeZeroFloatBits", type := .long, accessFlags := 26, slot := 5, constantValue := 0 }, { name := "negativeZeroDoubleBits", type := .long, accessFlags := 26, slot := 6, constantValue := 0 }, { name := "twoToTheDoubleScaleUp", type := .double, accessFlags := 8, slot := 7, constantValue := 0 }, { name := "twoToTheDoubleScaleDown", type := .double, accessFlags := 8, slot := 8, constantValue := 0 }, { name := "$assertionsDisabled", type := .boolean, accessFlags := 4120, slot := 9, constantValue := 0 }]
  methods := #[k23m0, k23m1]
  instanceTypes := #[]
  staticTypes := #[.double, .double, .double, .double, .double, .long, .long, .double, .double, .boolean]
  resolved := Array.replicate 460 none
  statics := none }

def pool24 : Array CpInfo := pool [(4, .class_ 6), (1, u "java/lang/Object"), (0, u "<init>"), (0, u "()V"), (5, .class_ 16), (1, u "java/lang/StringLatin1"), (104, u "$assertionsDisabled"), (0, u "Z"), (98, .class_ 223), (1, u "java/lang/StringLatin1$LinesSpliterator"), (166, .class_ 391), (0, u "java/lang/StringLatin1$CharsSpliterator")] 3

def k24m0 : Method := { name := "<init>", desc := "()V", sig := { parameters := [], returnType := none }, accessFlags := 0, code := none }
/-- java/lang/StringLatin1 -/
def k24 : Class := { plain "java/lang/StringLatin1" (some 0) with
  accessFlags := 48
  interfaces := #[]
  cf := some (fileOf pool24 14 #[.nestMembers #[390, 221]] #[{ accessFlags := 0, nameIndex := 7, descriptorIndex := 8, attributes := #[] }] 48 4 #[] #[{ accessFlags := 4120, nameIndex := 121, descriptorIndex := 122, attributes := #[] }])
  fields := #[{ name := "$assertionsDisabled", type := .boolean, accessFlags := 4120, slot := 0, constantValue := 0 }]
  methods := #[k24m0]
  instanceTypes := #[]
  staticTypes := #[.boolean]
  resolved := Array.replicate 395 none
  statics := none }

def pool25 : Array CpInfo := pool [(2, .class_ 4), (1, u "java/lang/Object"), (0, u "<init>"), (0, u "()V"), (17, .class_ 26), (1, u "jdk/internal/util/Preconditions"), (28, .class_ 56), (0, u "jdk/internal/util/Preconditions$4"), (57, .class_ 115), (0, u "jdk/internal/util/Preconditions$1"), (7, u "SIOOBE_FORMATTER"), (0, u "Ljava/util/function/BiFunction;"), (0, .class_ 126), (0, u "jdk/internal/util/Preconditions$2"), (3, u "AIOOBE_FORMATTER"), (0, .class_ 132), (0, u "jdk/internal/util/Preconditions$3"), (3, u "IOOBE_FORMATTER")] 57

def k25m0 : Method := { name := "<init>", desc := "()V", sig := { parameters := [], returnType := none }, accessFlags := 1, code := none }
/-- jdk/internal/util/Preconditions -/
def k25 : Class := { plain "jdk/internal/util/Preconditions" (some 0) with
  accessFlags := 33
  interfaces := #[]
  cf := some (fileOf pool25 24 #[.nestMembers #[55, 131, 125, 114]] #[{ accessFlags := 1, nameIndex := 5, descriptorIndex := 6, attributes := #[] }] 33 2 #[] #[{ accessFlags := 25, nameIndex := 123, descriptorIndex := 124, attributes := #[] }, { accessFlags := 25, nameIndex := 130, descriptorIndex := 124, attributes := #[] }, { accessFlags := 25, nameIndex := 136, descriptorIndex := 124, attributes := #[] }])
  fields := #[{ name := "SIOOBE_FORMATTER", type := (.object "java/util/function/BiFunction"), accessFlags := 25, slot := 0, constantValue := 0 }, { name := "AIOOBE_FORMATTER", type := (.object "java/util/function/BiFunction"), accessFlags := 25, slot := 1, constantValue := 0 }, { name := "IOOBE_FORMATTER", type := (.object "java/util/function/BiFunction"), accessFlags := 25, slot := 2, constantValue := 0 }]
  methods := #[k25m0]
  instanceTypes := #[]
  staticTypes := #[(.object "java/util/function/BiFunction"), (.object "java/util/function/BiFunction"), (.object "java/util/function/BiFunction")]
  resolved := Array.replicate 194 none
  statics := some 2 }

def pool26 : Array CpInfo := pool [(9, u "<init>"), (6, .class_ 18), (1, u "java/lang/Object"), (0, u "()V"), (1, .class_ 23), (1, u "jdk/internal/util/ArraysSupport"), (0, u "LOG2_ARRAY_LONG_INDEX_SCALE"), (0, u "I"), (2, u "U"), (0, u "Ljdk/internal/misc/Unsafe;"), (8, u "BIG_ENDIAN"), (0, u "Z"), (8, u "LOG2_BYTE_BIT_SIZE"), (4, u "LOG2_ARRAY_INT_INDEX_SCALE"), (54, u "JLA"), (0, u "Ljdk/internal/access/JavaLangAccess;"), (11, u "LOG2_ARRAY_BOOLEAN_INDEX_SCALE"), (9, u "LOG2_ARRAY_BYTE_INDEX_SCALE"), (5, u "LOG2_ARRAY_CHAR_INDEX_SCALE"), (5, u "LOG2_ARRAY_SHORT_INDEX_SCALE"), (18, u "LOG2_ARRAY_FLOAT_INDEX_SCALE"), (24, u "LOG2_ARRAY_DOUBLE_INDEX_SCALE"), (89, u "T_BOOLEAN"), (2, u "T_CHAR"), (1, u "T_FLOAT"), (1, u "T_DOUBLE"), (1, u "T_BYTE"), (1, u "T_SHORT"), (1, u "T_INT"), (1, u "T_LONG"), (1, u "SOFT_MAX_ARRAY_LENGTH")] 83

def k26m0 : Method := { name := "<init>", desc := "()V", sig := { parameters := [], returnType := none }, accessFlags := 2, code := none }
/-- jdk/internal/util/ArraysSupport -/
def k26 : Class := { plain "jdk/internal/util/ArraysSupport" (some 0) with
  accessFlags := 33
  interfaces := #[]
  cf := some (fileOf pool26 21 #[] #[{ accessFlags := 2, nameIndex := 9, descriptorIndex := 19, attributes := #[] }] 33 16 #[] #[{ accessFlags := 24, nameIndex := 28, descriptorIndex := 29, attributes := #[] }, { accessFlags := 26, nameIndex := 38, descriptorIndex := 39, attributes := #[] }, { accessFlags := 25, nameIndex := 121, descriptorIndex := 25, attributes := #[] }, { accessFlags := 25, nameIndex := 131, descriptorIndex := 25, attributes := #[] }, { accessFlags := 25, nameIndex := 137, descriptorIndex := 25, attributes := #[] }, { accessFlags := 25, nameIndex := 143, descriptorIndex := 25, attributes := #[] }, { accessFlags := 25, nameIndex := 53, descriptorIndex := 25, attributes := #[] }, { accessFlags := 25, nameIndex := 24, descriptorIndex := 25, attributes := #[] }, { accessFlags := 25, nameIndex := 162, descriptorIndex := 25, attributes := #[] }, { accessFlags := 25, nameIndex := 187, descriptorIndex := 25, attributes := #[] }, { accessFlags := 26, nameIndex := 48, descriptorIndex := 25, attributes := #[] }, { accessFlags := 25, nameIndex := 277, descriptorIndex := 25, attributes := #[] }, { accessFlags := 25, nameIndex := 280, descriptorIndex := 25, attributes := #[] }, { accessFlags := 25, nameIndex := 282, descriptorIndex := 25, attributes := #[] }, { accessFlags := 25, nameIndex := 284, descriptorIndex := 25, attributes := #[] }, { accessFlags := 25, nameIndex := 286, descriptorIndex := 25, attributes := #[] }, { accessFlags := 25, nameIndex := 288, descriptorIndex := 25, attributes := #[] }, { accessFlags := 25, nameIndex := 290, descriptorIndex := 25, attributes := #[] }, { accessFlags := 25, nameIndex := 292, descriptorIndex := 25, attributes := #[] }, { accessFlags := 26, nameIndex := 108, descriptorIndex := 109, attributes := #[] }, { accessFlags := 25, nameIndex := 294, descriptorIndex := 25, attributes := #[] }])
  fields := #[{ name := "U", type := (.object "jdk/internal/misc/Unsafe"), accessFlags := 24, slot := 0, constantValue := 0 }, { name := "BIG_ENDIAN", type := .boolean, accessFlags := 26, slot := 1, constantValue := 0 }, { name := "LOG2_ARRAY_BOOLEAN_INDEX_SCALE", type := .int, accessFlags := 25, slot := 2, constantValue := 0 }, { name := "LOG2_ARRAY_BYTE_INDEX_SCALE", type := .int, accessFlags := 25, slot := 3, constantValue := 0 }, { name := "LOG2_ARRAY_CHAR_INDEX_SCALE", type := .int, accessFlags := 25, slot := 4, constantValue := 0 }, { name := "LOG2_ARRAY_SHORT_INDEX_SCALE", type := .int, accessFlags := 25, slot := 5, constantValue := 0 }, { name := "LOG2_ARRAY_INT_INDEX_SCALE", type := .int, accessFlags := 25, slot := 6, constantValue := 0 }, { name := "LOG2_ARRAY_LONG_INDEX_SCALE", type := .int, accessFlags := 25, slot := 7, constantValue := 0 }, { name := "LOG2_ARRAY_FLOAT_INDEX_SCALE", type := .int, accessFlags := 25, slot := 8, constantValue := 0 }, { name := "LOG2_ARRAY_DOUBLE_INDEX_SCALE", type := .int, accessFlags := 25, slot := 9, constantValue := 0 }, { name := "LOG2_BYTE_BIT_SIZE", type := .int, accessFlags := 26, slot := 10, constantValue := 0 }, { name := "T_BOOLEAN", type := .int, accessFlags := 25, slot := 11, constantValue := 0 }, { name := "T_CHAR", type := .int, accessFlags := 25, slot := 12, constantValue := 0 }, { name := "T_FLOAT", type := .int, accessFlags := 25, slot := 13, constantValue := 0 }, { name := "T_DOUBLE", type := .int, accessFlags := 25, slot := 14, constantValue := 0 }, { name := "T_BYTE", type := .int, accessFlags := 25, slot := 15, constantValue := 0 }, { name := "T_SHORT", type := .int, accessFlags := 25, slot := 16, constantValue := 0 }, { name := "T_INT", type := .int, accessFlags := 25, slot := 17, constantValue := 0 }, { name := "T_LONG", type := .int, accessFlags := 25, slot := 18, constantValue := 0 }, { name := "JLA", type := (.object "jdk/internal/access/JavaLangAccess"), accessFlags := 26, slot := 19, constantValue := 0 }, { name := "SOFT_MAX_ARRAY_LENGTH", type := .int, accessFlags := 25, slot := 20, constantValue := 0 }]
  methods := #[k26m0]
  instanceTypes := #[]
  staticTypes := #[(.object "jdk/internal/misc/Unsafe"), .boolean, .int, .int, .int, .int, .int, .int, .int, .int, .int, .int, .int, .int, .int, .int, .int, .int, .int, (.object "jdk/internal/access/JavaLangAccess"), .int]
  resolved := Array.replicate 378 none
  statics := none }

/-- the primitive byte -/
def k27 : Class := { plain "byte" none with kind := .primitive 'B', accessFlags := 0x411 }
/-- [B -/
def k28 : Class := { plain "[B" (some 0) with kind := .array 27 .byte, interfaces := #[19, 5], accessFlags := 1041 }

/-- the primitive char -/
def k29 : Class := { plain "char" none with kind := .primitive 'C', accessFlags := 0x411 }
/-- [C -/
def k30 : Class := { plain "[C" (some 0) with kind := .array 29 .char, interfaces := #[19, 5], accessFlags := 1041 }

/-- the primitive int -/
def k31 : Class := { plain "int" none with kind := .primitive 'I', accessFlags := 0x411 }
/-- [I -/
def k32 : Class := { plain "[I" (some 0) with kind := .array 31 .int, interfaces := #[19, 5], accessFlags := 1041 }

/-- [Ljava/lang/Object; -/
def k33 : Class := { plain "[Ljava/lang/Object;" (some 0) with kind := .array 0 (.object "java/lang/Object"), interfaces := #[19, 5], accessFlags := 1041 }

def heap : Heap := #[{ cls := 10, slots := #[.long 0, .int 1, .null, .int 0, .null, .int 0, .int 0], vm := .statics 10 },
  { cls := 20, slots := #[.long 0, .int 0, .ref 3, .ref 4], vm := .statics 20 },
  { cls := 25, slots := #[.null, .null, .null], vm := .statics 25 },
  { cls := 33, slots := #[], vm := .none },
  { cls := 33, slots := #[], vm := .none }]
def classes : Array Class := #[k0, k1, k2, k3, k4, k5, k6, k7, k8, k9, k10, k11, k12, k13, k14, k15, k16, k17, k18, k19, k20, k21, k22, k23, k24, k25, k26, k27, k28, k29, k30, k31, k32, k33]
def interned : List (Array UInt16 × Addr) := []
def slotsUsed : Nat := 14
def theMethod : MethodId := ⟨1, 1⟩
def args0 : Array Value := #[.int 5, .long 7, .long 7, .long 7, .long 7, .int 5]
def aboutOver (below : List Frame) : State where
  vm := { classes := classes, interned := interned.toArray }
  heap := heap
  slotsUsed := slotsUsed
  threads := #[{ frames := .invoking theMethod args0 :: below }]
def below0 : List Frame := [.native { method := ⟨0, 0⟩, args := #[] }]
def about1 : State := aboutOver below0
def p0 : Program := .bare "" "" ""
def e0 : Env := launch0.env 0 0 0
theorem w_frames : about1.frames = Frame.invoking theMethod args0 :: below0 := rfl
set_option maxRecDepth 65536 in
theorem w_args : argsFit about1.vm theMethod args0 = true := by decide +kernel
set_option maxRecDepth 65536 in
theorem w_heap : heapFits about1 = true := by decide +kernel
set_option maxRecDepth 65536 in
theorem w_runnable : about1.curStatus? = some .runnable := by decide +kernel
set_option maxRecDepth 65536 in
theorem w_alone : about1.alone = true := by decide +kernel
set_option maxRecDepth 65536 in
theorem w_named : about1.methodNamed? x = some theMethod := by decide +kernel
set_option maxRecDepth 65536 in
theorem w_hears : about1.hears theMethod below0 = true := by decide +kernel
set_option maxRecDepth 65536 in
theorem w_ripe : about1.ripe theMethod args0 below0 = true := by decide +kernel
theorem w_running : about1.status = .running := rfl
set_option maxRecDepth 65536 in
theorem w_room : about1.hasRoom e0.platform room_1 = true :=
  launch0.hasRoom_least _ room_1 (by decide +kernel) (by decide +kernel) (by decide +kernel) (by decide +kernel) (by decide +kernel) (by decide +kernel)
theorem allAtoms_all (ts : List Jvm.Cond) (a : Array Jvm.Value) (st : Jvm.State) : (allAtoms ts).before a st = ts.all (fun c => c.before a st) := by
  induction ts with
  | nil => rfl
  | cons c t ih =>
    show (Jvm.Cond.and c (allAtoms t)).before a st = _
    rw [Jvm.Cond.before_and, ih, List.all_cons]
def words1 : List Jvm.Cond := Jvm.Cond.code x code maxLocals ret :: tables_1
/-- a 'code' word, met by the world's own term for the bytes: nothing is compared byte by byte -/
theorem code_word {y : MethodName} {bytes : ByteArray} {mx : Nat} {rt : Option FieldType} {a : Array Value} {s : State} {m : MethodId} {meth : Method} {c : Code} (h1 : s.methodNamed? y = some m) (h2 : s.vm.method? m = some meth) (h3 : meth.code = some c) (h4 : c.code = bytes)
    (h5 : (c.maxLocals == mx && c.exceptionTable.isEmpty && decide (c.maxStack ≤ mostOperands) && decide (meth.sig.returnType = rt) && !meth.locks && decide (parseMethodDescriptor y.desc = some meth.sig)) = true) : (Jvm.Cond.code y bytes mx rt).before a s = true := by
  simp only [Bool.and_eq_true, beq_iff_eq, Bool.not_eq_true', decide_eq_true_eq] at h5
  obtain ⟨⟨⟨⟨⟨g1, g2⟩, g3⟩, g4⟩, g5⟩, g6⟩ := h5
  simp [Cond.before, Cond.holds, Cond.value, h1, h2, h3, h4, g1, g2, g3, g4, g5, g6]
def isCode : Jvm.Cond → Bool
  | .code _ _ _ _ => true
  | _ => false
theorem all_split {L : List Jvm.Cond} {P : Jvm.Cond → Bool} (h1 : L.all (fun c => isCode c || P c) = true) (h2 : ∀ c ∈ L.filter isCode, P c = true) : L.all P = true := by
  refine List.all_eq_true.mpr fun c hc => ?_
  have h := List.all_eq_true.mp h1 c hc
  rcases Bool.eq_false_or_eq_true (isCode c) with hi | hi
  · exact h2 c (List.mem_filter.mpr ⟨hc, hi⟩)
  · simpa [hi] using h
set_option maxRecDepth 65536 in
theorem w_c0 : (Jvm.Cond.code x code maxLocals ret).before args0 about1 = true := code_word (m := ⟨1, 1⟩) (meth := k1m1) (c := k1c1) (by decide +kernel) rfl rfl rfl (by decide +kernel)
set_option maxRecDepth 65536 in
theorem w_c1 : (Jvm.Cond.code ({ cls := "com/example/brelok/brelok/perf/Timing$Measure", name := "<init>", desc := "(DJJ)V" } : Jvm.MethodName) prog_37_method_1_code (7 : Nat) (Option.none : Option Jvm.ClassFile.FieldType)).before args0 about1 = true := code_word (m := ⟨3, 0⟩) (meth := k3m0) (c := k3c0) (by decide +kernel) rfl rfl rfl (by decide +kernel)
set_option maxRecDepth 65536 in
theorem w_c2 : (Jvm.Cond.code ({ cls := "java/lang/Record", name := "<init>", desc := "()V" } : Jvm.MethodName) jdk_30_method_1_code (1 : Nat) (Option.none : Option Jvm.ClassFile.FieldType)).before args0 about1 = true := code_word (m := ⟨2, 0⟩) (meth := k2m0) (c := k2c0) (by decide +kernel) rfl rfl rfl (by decide +kernel)
set_option maxRecDepth 65536 in
theorem w_c3 : (Jvm.Cond.code ({ cls := "java/lang/Object", name := "<init>", desc := "()V" } : Jvm.MethodName) object_method_1_code (1 : Nat) (Option.none : Option Jvm.ClassFile.FieldType)).before args0 about1 = true := code_word (m := ⟨0, 0⟩) (meth := k0m0) (c := k0c0) (by decide +kernel) rfl rfl rfl (by decide +kernel)
set_option maxRecDepth 65536 in
theorem w_c4 : (Jvm.Cond.code ({ cls := "java/lang/String", name := "<init>", desc := "([C)V" } : Jvm.MethodName) jdk_42_method_3_code (2 : Nat) (Option.none : Option Jvm.ClassFile.FieldType)).before args0 about1 = true := code_word (m := ⟨10, 1⟩) (meth := k10m1) (c := k10c1) (by decide +kernel) rfl rfl rfl (by decide +kernel)
set_option maxRecDepth 65536 in
theorem w_c5 : (Jvm.Cond.code ({ cls := "java/lang/String", name := "<init>", desc := "([CIILjava/lang/Void;)V" } : Jvm.MethodName) jdk_42_method_149_code (6 : Nat) (Option.none : Option Jvm.ClassFile.FieldType)).before args0 about1 = true := code_word (m := ⟨10, 2⟩) (meth := k10m2) (c := k10c2) (by decide +kernel) rfl rfl rfl (by decide +kernel)
set_option maxRecDepth 65536 in
theorem w_c6 : (Jvm.Cond.code ({ cls := "java/lang/StringUTF16", name := "compress", desc := "([CII)[B" } : Jvm.MethodName) jdk_52_method_16_code (6 : Nat) (Option.some (Jvm.ClassFile.FieldType.array Jvm.ClassFile.FieldType.byte))).before args0 about1 = true := code_word (m := ⟨11, 2⟩) (meth := k11m2) (c := k11c2) (by decide +kernel) rfl rfl rfl (by decide +kernel)
set_option maxRecDepth 65536 in
theorem w_c7 : (Jvm.Cond.code ({ cls := "java/lang/StringUTF16", name := "compress", desc := "([CI[BII)I" } : Jvm.MethodName) jdk_52_method_21_code (7 : Nat) (Option.some Jvm.ClassFile.FieldType.int)).before args0 about1 = true := code_word (m := ⟨11, 3⟩) (meth := k11m3) (c := k11c3) (by decide +kernel) rfl rfl rfl (by decide +kernel)
set_option maxRecDepth 65536 in
theorem w_c8 : (Jvm.Cond.code ({ cls := "java/lang/StringUTF16", name := "coderFromArrayLen", desc := "([BI)B" } : Jvm.MethodName) jdk_52_method_15_code (2 : Nat) (Option.some Jvm.ClassFile.FieldType.byte)).before args0 about1 = true := code_word (m := ⟨11, 1⟩) (meth := k11m1) (c := k11c1) (by decide +kernel) rfl rfl rfl (by decide +kernel)
set_option maxRecDepth 65536 in
theorem w_c9 : (Jvm.Cond.code ({ cls := "com/example/brelok/brelok/perf/Tally", name := "<init>", desc := "(Ljava/lang/String;Z)V" } : Jvm.MethodName) prog_34_method_1_code (3 : Nat) (Option.none : Option Jvm.ClassFile.FieldType)).before args0 about1 = true := code_word (m := ⟨4, 0⟩) (meth := k4m0) (c := k4c0) (by decide +kernel) rfl rfl rfl (by decide +kernel)
set_option maxRecDepth 65536 in
theorem w_c10 : (Jvm.Cond.code ({ cls := "java/util/ArrayList", name := "<init>", desc := "()V" } : Jvm.MethodName) jdk_38_method_2_code (1 : Nat) (Option.none : Option Jvm.ClassFile.FieldType)).before args0 about1 = true := code_word (m := ⟨20, 0⟩) (meth := k20m0) (c := k20c0) (by decide +kernel) rfl rfl rfl (by decide +kernel)
set_option maxRecDepth 65536 in
theorem w_c11 : (Jvm.Cond.code ({ cls := "java/util/AbstractList", name := "<init>", desc := "()V" } : Jvm.MethodName) jdk_39_method_1_code (1 : Nat) (Option.none : Option Jvm.ClassFile.FieldType)).before args0 about1 = true := code_word (m := ⟨17, 0⟩) (meth := k17m0) (c := k17c0) (by decide +kernel) rfl rfl rfl (by decide +kernel)
set_option maxRecDepth 65536 in
theorem w_c12 : (Jvm.Cond.code ({ cls := "java/util/AbstractCollection", name := "<init>", desc := "()V" } : Jvm.MethodName) jdk_22_method_1_code (1 : Nat) (Option.none : Option Jvm.ClassFile.FieldType)).before args0 about1 = true := code_word (m := ⟨14, 0⟩) (meth := k14m0) (c := k14c0) (by decide +kernel) rfl rfl rfl (by decide +kernel)
set_option maxRecDepth 65536 in
theorem w_c13 : (Jvm.Cond.code ({ cls := "com/example/brelok/brelok/perf/Tally", name := "failedToExclude", desc := "()Z" } : Jvm.MethodName) prog_34_method_7_code (1 : Nat) (Option.some Jvm.ClassFile.FieldType.boolean)).before args0 about1 = true := code_word (m := ⟨4, 3⟩) (meth := k4m3) (c := k4c3) (by decide +kernel) rfl rfl rfl (by decide +kernel)
set_option maxRecDepth 65536 in
theorem w_c14 : (Jvm.Cond.code ({ cls := "com/example/brelok/brelok/perf/Tally", name := "addContended", desc := "(Lcom/example/brelok/brelok/perf/Timing$Measure;)V" } : Jvm.MethodName) prog_34_method_5_code (2 : Nat) (Option.none : Option Jvm.ClassFile.FieldType)).before args0 about1 = true := code_word (m := ⟨4, 1⟩) (meth := k4m1) (c := k4c1) (by decide +kernel) rfl rfl rfl (by decide +kernel)
set_option maxRecDepth 65536 in
theorem w_c15 : (Jvm.Cond.code ({ cls := "com/example/brelok/brelok/perf/Timing$Measure", name := "figure", desc := "()D" } : Jvm.MethodName) prog_37_method_5_code (1 : Nat) (Option.some Jvm.ClassFile.FieldType.double)).before args0 about1 = true := code_word (m := ⟨3, 1⟩) (meth := k3m1) (c := k3c1) (by decide +kernel) rfl rfl rfl (by decide +kernel)
set_option maxRecDepth 65536 in
theorem w_c16 : (Jvm.Cond.code ({ cls := "java/lang/Double", name := "valueOf", desc := "(D)Ljava/lang/Double;" } : Jvm.MethodName) jdk_117_method_4_code (2 : Nat) (Option.some (Jvm.ClassFile.FieldType.object "java/lang/Double"))).before args0 about1 = true := code_word (m := ⟨22, 0⟩) (meth := k22m0) (c := k22c0) (by decide +kernel) rfl rfl rfl (by decide +kernel)
set_option maxRecDepth 65536 in
theorem w_c17 : (Jvm.Cond.code ({ cls := "java/lang/Double", name := "<init>", desc := "(D)V" } : Jvm.MethodName) jdk_117_method_9_code (3 : Nat) (Option.none : Option Jvm.ClassFile.FieldType)).before args0 about1 = true := code_word (m := ⟨22, 1⟩) (meth := k22m1) (c := k22c1) (by decide +kernel) rfl rfl rfl (by decide +kernel)
set_option maxRecDepth 65536 in
theorem w_c18 : (Jvm.Cond.code ({ cls := "java/lang/Number", name := "<init>", desc := "()V" } : Jvm.MethodName) jdk_18_method_1_code (1 : Nat) (Option.none : Option Jvm.ClassFile.FieldType)).before args0 about1 = true := code_word (m := ⟨21, 0⟩) (meth := k21m0) (c := k21c0) (by decide +kernel) rfl rfl rfl (by decide +kernel)
set_option maxRecDepth 65536 in
theorem w_c19 : (Jvm.Cond.code ({ cls := "java/util/ArrayList", name := "add", desc := "(Ljava/lang/Object;)Z" } : Jvm.MethodName) jdk_38_method_25_code (2 : Nat) (Option.some Jvm.ClassFile.FieldType.boolean)).before args0 about1 = true := code_word (m := ⟨20, 4⟩) (meth := k20m4) (c := k20c4) (by decide +kernel) rfl rfl rfl (by decide +kernel)
set_option maxRecDepth 65536 in
theorem w_c20 : (Jvm.Cond.code ({ cls := "java/util/ArrayList", name := "add", desc := "(Ljava/lang/Object;[Ljava/lang/Object;I)V" } : Jvm.MethodName) jdk_38_method_24_code (4 : Nat) (Option.none : Option Jvm.ClassFile.FieldType)).before args0 about1 = true := code_word (m := ⟨20, 3⟩) (meth := k20m3) (c := k20c3) (by decide +kernel) rfl rfl rfl (by decide +kernel)
set_option maxRecDepth 65536 in
theorem w_c21 : (Jvm.Cond.code ({ cls := "java/util/ArrayList", name := "grow", desc := "()[Ljava/lang/Object;" } : Jvm.MethodName) jdk_38_method_7_code (1 : Nat) (Option.some (Jvm.ClassFile.FieldType.array (Jvm.ClassFile.FieldType.object "java/lang/Object")))).before args0 about1 = true := code_word (m := ⟨20, 2⟩) (meth := k20m2) (c := k20c2) (by decide +kernel) rfl rfl rfl (by decide +kernel)
set_option maxRecDepth 65536 in
theorem w_c22 : (Jvm.Cond.code ({ cls := "java/util/ArrayList", name := "grow", desc := "(I)[Ljava/lang/Object;" } : Jvm.MethodName) jdk_38_method_6_code (4 : Nat) (Option.some (Jvm.ClassFile.FieldType.array (Jvm.ClassFile.FieldType.object "java/lang/Object")))).before args0 about1 = true := code_word (m := ⟨20, 1⟩) (meth := k20m1) (c := k20c1) (by decide +kernel) rfl rfl rfl (by decide +kernel)
set_option maxRecDepth 65536 in
theorem w_c23 : (Jvm.Cond.code ({ cls := "java/lang/Math", name := "max", desc := "(II)I" } : Jvm.MethodName) jdk_29_method_65_code (2 : Nat) (Option.some Jvm.ClassFile.FieldType.int)).before args0 about1 = true := code_word (m := ⟨23, 1⟩) (meth := k23m1) (c := k23c1) (by decide +kernel) rfl rfl rfl (by decide +kernel)
set_option maxRecDepth 65536 in
theorem w_c24 : (Jvm.Cond.code ({ cls := "com/example/brelok/brelok/perf/Tally", name := "addExclusion", desc := "(Lcom/example/brelok/brelok/perf/Timing$Measure;)V" } : Jvm.MethodName) prog_34_method_14_code (2 : Nat) (Option.none : Option Jvm.ClassFile.FieldType)).before args0 about1 = true := code_word (m := ⟨4, 4⟩) (meth := k4m4) (c := k4c4) (by decide +kernel) rfl rfl rfl (by decide +kernel)
set_option maxRecDepth 65536 in
theorem w_c25 : (Jvm.Cond.code ({ cls := "com/example/brelok/brelok/perf/Timing$Measure", name := "overlaps", desc := "()J" } : Jvm.MethodName) prog_37_method_6_code (1 : Nat) (Option.some Jvm.ClassFile.FieldType.long)).before args0 about1 = true := code_word (m := ⟨3, 2⟩) (meth := k3m2) (c := k3c2) (by decide +kernel) rfl rfl rfl (by decide +kernel)
set_option maxRecDepth 65536 in
theorem w_c26 : (Jvm.Cond.code ({ cls := "com/example/brelok/brelok/perf/Timing$Measure", name := "lostUpdates", desc := "()J" } : Jvm.MethodName) prog_37_method_7_code (1 : Nat) (Option.some Jvm.ClassFile.FieldType.long)).before args0 about1 = true := code_word (m := ⟨3, 3⟩) (meth := k3m3) (c := k3c3) (by decide +kernel) rfl rfl rfl (by decide +kernel)
set_option maxRecDepth 65536 in
theorem w_c27 : (Jvm.Cond.code ({ cls := "com/example/brelok/brelok/perf/Tally", name := "setWaiting", desc := "(Lcom/example/brelok/brelok/perf/Timing$Measure;)V" } : Jvm.MethodName) prog_34_method_6_code (2 : Nat) (Option.none : Option Jvm.ClassFile.FieldType)).before args0 about1 = true := code_word (m := ⟨4, 2⟩) (meth := k4m2) (c := k4c2) (by decide +kernel) rfl rfl rfl (by decide +kernel)
def codes1 : List Jvm.Cond := [Jvm.Cond.code x code maxLocals ret, Jvm.Cond.code ({ cls := "com/example/brelok/brelok/perf/Timing$Measure", name := "<init>", desc := "(DJJ)V" } : Jvm.MethodName) prog_37_method_1_code (7 : Nat) (Option.none : Option Jvm.ClassFile.FieldType), Jvm.Cond.code ({ cls := "java/lang/Record", name := "<init>", desc := "()V" } : Jvm.MethodName) jdk_30_method_1_code (1 : Nat) (Option.none : Option Jvm.ClassFile.FieldType), Jvm.Cond.code ({ cls := "java/lang/Object", name := "<init>", desc := "()V" } : Jvm.MethodName) object_method_1_code (1 : Nat) (Option.none : Option Jvm.ClassFile.FieldType), Jvm.Cond.code ({ cls := "java/lang/String", name := "<init>", desc := "([C)V" } : Jvm.MethodName) jdk_42_method_3_code (2 : Nat) (Option.none : Option Jvm.ClassFile.FieldType), Jvm.Cond.code ({ cls := "java/lang/String", name := "<init>", desc := "([CIILjava/lang/Void;)V" } : Jvm.MethodName) jdk_42_method_149_code (6 : Nat) (Option.none : Option Jvm.ClassFile.FieldType), Jvm.Cond.code ({ cls := "java/lang/StringUTF16", name := "compress", desc := "([CII)[B" } : Jvm.MethodName) jdk_52_method_16_code (6 : Nat) (Option.some (Jvm.ClassFile.FieldType.array Jvm.ClassFile.FieldType.byte)), Jvm.Cond.code ({ cls := "java/lang/StringUTF16", name := "compress", desc := "([CI[BII)I" } : Jvm.MethodName) jdk_52_method_21_code (7 : Nat) (Option.some Jvm.ClassFile.FieldType.int), Jvm.Cond.code ({ cls := "java/lang/StringUTF16", name := "coderFromArrayLen", desc := "([BI)B" } : Jvm.MethodName) jdk_52_method_15_code (2 : Nat) (Option.some Jvm.ClassFile.FieldType.byte), Jvm.Cond.code ({ cls := "com/example/brelok/brelok/perf/Tally", name := "<init>", desc := "(Ljava/lang/String;Z)V" } : Jvm.MethodName) prog_34_method_1_code (3 : Nat) (Option.none : Option Jvm.ClassFile.FieldType), Jvm.Cond.code ({ cls := "java/util/ArrayList", name := "<init>", desc := "()V" } : Jvm.MethodName) jdk_38_method_2_code (1 : Nat) (Option.none : Option Jvm.ClassFile.FieldType), Jvm.Cond.code ({ cls := "java/util/AbstractList", name := "<init>", desc := "()V" } : Jvm.MethodName) jdk_39_method_1_code (1 : Nat) (Option.none : Option Jvm.ClassFile.FieldType), Jvm.Cond.code ({ cls := "java/util/AbstractCollection", name := "<init>", desc := "()V" } : Jvm.MethodName) jdk_22_method_1_code (1 : Nat) (Option.none : Option Jvm.ClassFile.FieldType), Jvm.Cond.code ({ cls := "com/example/brelok/brelok/perf/Tally", name := "failedToExclude", desc := "()Z" } : Jvm.MethodName) prog_34_method_7_code (1 : Nat) (Option.some Jvm.ClassFile.FieldType.boolean), Jvm.Cond.code ({ cls := "com/example/brelok/brelok/perf/Tally", name := "addContended", desc := "(Lcom/example/brelok/brelok/perf/Timing$Measure;)V" } : Jvm.MethodName) prog_34_method_5_code (2 : Nat) (Option.none : Option Jvm.ClassFile.FieldType), Jvm.Cond.code ({ cls := "com/example/brelok/brelok/perf/Timing$Measure", name := "figure", desc := "()D" } : Jvm.MethodName) prog_37_method_5_code (1 : Nat) (Option.some Jvm.ClassFile.FieldType.double), Jvm.Cond.code ({ cls := "java/lang/Double", name := "valueOf", desc := "(D)Ljava/lang/Double;" } : Jvm.MethodName) jdk_117_method_4_code (2 : Nat) (Option.some (Jvm.ClassFile.FieldType.object "java/lang/Double")), Jvm.Cond.code ({ cls := "java/lang/Double", name := "<init>", desc := "(D)V" } : Jvm.MethodName) jdk_117_method_9_code (3 : Nat) (Option.none : Option Jvm.ClassFile.FieldType), Jvm.Cond.code ({ cls := "java/lang/Number", name := "<init>", desc := "()V" } : Jvm.MethodName) jdk_18_method_1_code (1 : Nat) (Option.none : Option Jvm.ClassFile.FieldType), Jvm.Cond.code ({ cls := "java/util/ArrayList", name := "add", desc := "(Ljava/lang/Object;)Z" } : Jvm.MethodName) jdk_38_method_25_code (2 : Nat) (Option.some Jvm.ClassFile.FieldType.boolean), Jvm.Cond.code ({ cls := "java/util/ArrayList", name := "add", desc := "(Ljava/lang/Object;[Ljava/lang/Object;I)V" } : Jvm.MethodName) jdk_38_method_24_code (4 : Nat) (Option.none : Option Jvm.ClassFile.FieldType), Jvm.Cond.code ({ cls := "java/util/ArrayList", name := "grow", desc := "()[Ljava/lang/Object;" } : Jvm.MethodName) jdk_38_method_7_code (1 : Nat) (Option.some (Jvm.ClassFile.FieldType.array (Jvm.ClassFile.FieldType.object "java/lang/Object"))), Jvm.Cond.code ({ cls := "java/util/ArrayList", name := "grow", desc := "(I)[Ljava/lang/Object;" } : Jvm.MethodName) jdk_38_method_6_code (4 : Nat) (Option.some (Jvm.ClassFile.FieldType.array (Jvm.ClassFile.FieldType.object "java/lang/Object"))), Jvm.Cond.code ({ cls := "java/lang/Math", name := "max", desc := "(II)I" } : Jvm.MethodName) jdk_29_method_65_code (2 : Nat) (Option.some Jvm.ClassFile.FieldType.int), Jvm.Cond.code ({ cls := "com/example/brelok/brelok/perf/Tally", name := "addExclusion", desc := "(Lcom/example/brelok/brelok/perf/Timing$Measure;)V" } : Jvm.MethodName) prog_34_method_14_code (2 : Nat) (Option.none : Option Jvm.ClassFile.FieldType), Jvm.Cond.code ({ cls := "com/example/brelok/brelok/perf/Timing$Measure", name := "overlaps", desc := "()J" } : Jvm.MethodName) prog_37_method_6_code (1 : Nat) (Option.some Jvm.ClassFile.FieldType.long), Jvm.Cond.code ({ cls := "com/example/brelok/brelok/perf/Timing$Measure", name := "lostUpdates", desc := "()J" } : Jvm.MethodName) prog_37_method_7_code (1 : Nat) (Option.some Jvm.ClassFile.FieldType.long), Jvm.Cond.code ({ cls := "com/example/brelok/brelok/perf/Tally", name := "setWaiting", desc := "(Lcom/example/brelok/brelok/perf/Timing$Measure;)V" } : Jvm.MethodName) prog_34_method_6_code (2 : Nat) (Option.none : Option Jvm.ClassFile.FieldType)]
set_option maxRecDepth 65536 in
theorem codes_eq : words1.filter isCode = codes1 := rfl
theorem w_codes : ∀ c ∈ words1.filter isCode, c.before args0 about1 = true := by
  rw [codes_eq]
  intro c hc
  simp only [codes1, List.mem_cons, List.not_mem_nil, or_false] at hc
  rcases hc with rfl | rfl | rfl | rfl | rfl | rfl | rfl | rfl | rfl | rfl | rfl | rfl | rfl | rfl | rfl | rfl | rfl | rfl | rfl | rfl | rfl | rfl | rfl | rfl | rfl | rfl | rfl | rfl
  · exact w_c0
  · exact w_c1
  · exact w_c2
  · exact w_c3
  · exact w_c4
  · exact w_c5
  · exact w_c6
  · exact w_c7
  · exact w_c8
  · exact w_c9
  · exact w_c10
  · exact w_c11
  · exact w_c12
  · exact w_c13
  · exact w_c14
  · exact w_c15
  · exact w_c16
  · exact w_c17
  · exact w_c18
  · exact w_c19
  · exact w_c20
  · exact w_c21
  · exact w_c22
  · exact w_c23
  · exact w_c24
  · exact w_c25
  · exact w_c26
  · exact w_c27
set_option maxRecDepth 65536 in
theorem w_t1 : (words1.take 24).all (fun c => isCode c || c.before args0 about1) = true := by decide +kernel
set_option maxRecDepth 65536 in
theorem w_t2 : ((words1.drop 24).take 24).all (fun c => isCode c || c.before args0 about1) = true := by decide +kernel
set_option maxRecDepth 65536 in
theorem w_t3 : (((words1.drop 24).drop 24).take 24).all (fun c => isCode c || c.before args0 about1) = true := by decide +kernel
set_option maxRecDepth 65536 in
theorem w_t4 : ((((words1.drop 24).drop 24).drop 24).take 24).all (fun c => isCode c || c.before args0 about1) = true := by decide +kernel
set_option maxRecDepth 65536 in
theorem w_t5 : (((((words1.drop 24).drop 24).drop 24).drop 24).take 24).all (fun c => isCode c || c.before args0 about1) = true := by decide +kernel
set_option maxRecDepth 65536 in
theorem w_t6 : ((((((words1.drop 24).drop 24).drop 24).drop 24).drop 24).take 24).all (fun c => isCode c || c.before args0 about1) = true := by decide +kernel
set_option maxRecDepth 65536 in
theorem w_t7 : (((((((words1.drop 24).drop 24).drop 24).drop 24).drop 24).drop 24).take 24).all (fun c => isCode c || c.before args0 about1) = true := by decide +kernel
set_option maxRecDepth 65536 in
theorem w_t8 : (((((((words1.drop 24).drop 24).drop 24).drop 24).drop 24).drop 24).drop 24).all (fun c => isCode c || c.before args0 about1) = true := by decide +kernel
theorem w_tables : (allAtoms (Jvm.Cond.code x code maxLocals ret :: tables_1)).before args0 about1 = true := by
  rw [allAtoms_all]
  show words1.all (fun c => c.before args0 about1) = true
  refine all_split ?_ w_codes
  rw [← List.take_append_drop 24 words1, List.all_append, w_t1, ← List.take_append_drop 24 (words1.drop 24), List.all_append, w_t2, ← List.take_append_drop 24 ((words1.drop 24).drop 24), List.all_append, w_t3, ← List.take_append_drop 24 (((words1.drop 24).drop 24).drop 24), List.all_append, w_t4, ← List.take_append_drop 24 ((((words1.drop 24).drop 24).drop 24).drop 24), List.all_append, w_t5, ← List.take_append_drop 24 (((((words1.drop 24).drop 24).drop 24).drop 24).drop 24), List.all_append, w_t6, ← List.take_append_drop 24 ((((((words1.drop 24).drop 24).drop 24).drop 24).drop 24).drop 24), List.all_append, w_t7, w_t8]
  rfl
set_option maxRecDepth 65536 in
theorem w_rest : rest_1_c.before args0 about1 = true := by decide +kernel
set_option maxRecDepth 65536 in
theorem w_case : (Jvm.Cond.and given_1 narrow_1).before args0 about1 = true := by decide +kernel
theorem w_applies : (headSpec (Jvm.Cond.code x code maxLocals ret :: tables_1) room_1).applies x e0.platform about1 = true :=
  (Spec.applies_iff w_frames).mpr ⟨w_running, w_runnable, w_alone, w_named, w_hears, w_ripe, w_room, w_tables⟩
theorem atStart : AtStart classFile x code maxLocals ret World_1 tables_1 room_1 Calls_1 rest_1 Pre_1 launch0 p0 e0 about1 theMethod args0 below0 :=
  ⟨lists_1, trivial, launch0.admits_env _ _ _, launch0.least_env, fairChoices_fair.cas, fairChoices_fair.clock, w_frames, w_args, w_heap, w_applies, trivial, w_rest, w_case⟩
end start1
theorem witness_1 : WitnessClaimed_1 := ⟨start1.p0, start1.e0, start1.about1, start1.theMethod, start1.args0, start1.below0, start1.atStart⟩
end Jvm.Pilot.@@N@@
