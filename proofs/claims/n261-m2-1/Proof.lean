import JvmDerived
import JvmDerived.Pilot.@@N@@Statement
import JvmDerived.Pilot.@@N@@Code
set_option linter.unusedVariables false
set_option linter.unusedSimpArgs false
namespace Jvm.RoadKit
open Sem ClassFile Op Lib Jvm.Stand Jvm.Free Jvm.LawKit
section New
variable {p : Program} {l : Launch} {e : Env} {R : Room} {s : State} {m : MethodId} {args : Array Value} {below : List Frame} {meth : Method} {c : Code} {T : State} {locs : List Loc} {cells slots : Nat}
theorem retI (X : Stand p l e R s m args below meth c T locs cells slots) (hx : p.tables.exec = Jvm.exec) {pc : Nat} {Ls : Array Slot} {z : Int32} {rest : List Value} (hret : meth.sig.returnType = some .int) (hd : decode c.code pc = .ok (.ireturn, 1)) {fs : List Frame}
    (hl : ∀ (f : JFrame) (acts : List Action), f.method = m → f.locked = none → f.entered = [] → (doReturn e (T.setTop f) acts (some (.int z))).1 = T.setFrames fs) : Steps p.tables e below (T.setTop (mkF m pc Ls (.int z :: rest))) (T.setFrames fs) := by
  have hm' : T.vm.method? m = some meth := X.method'
  have hn : narrow .int (.int z) = .int z := rfl
  show Steps p.tables e below (T.setTop { method := m, pc := pc, locals := Ls, stack := _ :: rest, locked := none }) _
  jvm_step X.here [X.here.top, hx, hd, hm', hret, hn]
  first | (intro acts; rw [hl _ acts rfl rfl rfl]) | rw [hl _ _ rfl rfl rfl]
  exact Steps.refl _
end New
end Jvm.RoadKit
namespace Jvm.Pilot.@@N@@
open Jvm Jvm.ClassFile Sem Op Lib Jvm.Free Jvm.Stand Jvm.LawKit Jvm.RoadKit Bundle Jvm.Pilot.@@N@@.Jvm.D
theorem d2_0 : decode prog_22_method_1_code 0 = .ok (.aload_n 0, 1) := by decide +kernel
theorem d2_1 : decode prog_22_method_1_code 1 = .ok (.invokespecial 1, 3) := by decide +kernel
theorem d2_4 : decode prog_22_method_1_code 4 = .ok (.aload_n 0, 1) := by decide +kernel
theorem d2_5 : decode prog_22_method_1_code 5 = .ok (.dload_n 1, 1) := by decide +kernel
theorem d2_6 : decode prog_22_method_1_code 6 = .ok (.putfield 7, 3) := by decide +kernel
theorem d2_9 : decode prog_22_method_1_code 9 = .ok (.aload_n 0, 1) := by decide +kernel
theorem d2_10 : decode prog_22_method_1_code 10 = .ok (.dload_n 3, 1) := by decide +kernel
theorem d2_11 : decode prog_22_method_1_code 11 = .ok (.putfield 13, 3) := by decide +kernel
theorem d2_14 : decode prog_22_method_1_code 14 = .ok (.return_, 1) := by decide +kernel
theorem pn_2 : plainName "com/example/mensura/mensura/DoubleDouble" = true := by first | (simp [plainName, overriddenIn]; done) | decide +kernel
theorem ef_rm2 (m : MethodId) (x0 : Addr) (x1 : UInt64) (x2 : UInt64) : entryFrame m #[(.ref x0), (.double x1), (.double x2)] 5 = mkF m 0 #[.val (.ref x0), .val (.double x1), .second, .val (.double x2), .second] [] := by first | (simp [entryFrame, mkF, argsToLocals, Value.category]; done) | rfl
def Q_rm2 (Z : State) (a : Addr) (x : UInt64) (y : UInt64) (h0 : Heap) (n0 : Nat) (rv : Option Value) (h : Heap) (L : List Loc) : Prop := rv = none ∧ Fr n0 L ∧ Keep h0 h [a] ∧ Exa Z h a "com/example/mensura/mensura/DoubleDouble" ∧ Fld Z h a "com/example/mensura/mensura/DoubleDouble" "high" "D" (.double x) ∧ Fld Z h a "com/example/mensura/mensura/DoubleDouble" "low" "D" (.double y)
set_option maxRecDepth 65536 in
set_option maxHeartbeats 40000000 in
theorem rm2 (l : Launch) (Z : State) (a0 : Array Value) (hw : ∀ d ∈ tables_1, d.before a0 Z = true) (ws : List Jvm.Cond) (a : Addr) (x : UInt64) (y : UInt64) (h0 : Heap) (n0 : Nat) (Z0 : n0 ≤ h0.size) (E_a : Exa Z h0 a "com/example/mensura/mensura/DoubleDouble") (F1 : Fld Z h0 a "com/example/mensura/mensura/DoubleDouble" "high" "D" (.double (0 : UInt64))) (F2 : Fld Z h0 a "com/example/mensura/mensura/DoubleDouble" "low" "D" (.double (0 : UInt64))) (g_a : n0 ≤ a) :
    MetFree l (⟨"com/example/mensura/mensura/DoubleDouble", "<init>", "(DD)V"⟩ : MethodName) (head1 (Jvm.Cond.code (⟨"com/example/mensura/mensura/DoubleDouble", "<init>", "(DD)V"⟩ : MethodName) prog_22_method_1_code 5 none :: ws) ({ frames := 1, cells := 0, slots := 0, locals := 12 } : Room)) (fun av U => av = #[(.ref a), (.double x), (.double y)] ∧ Z.Warmed39 U.vm ∧ U.heap = h0) (fun _ _ _ _ _ => True) (fun _ U o U' => ∃ rv L, o = .returned rv ∧ Q_rm2 Z a x y h0 n0 rv U'.heap L ∧ FrameEnd U o U' L ({ frames := 1, cells := 0, slots := 0, locals := 12 } : Room).cells ({ frames := 1, cells := 0, slots := 0, locals := 12 } : Room).slots) := by
  refine MetFree.of_bodySF (plainFor_of_name pn_2) hisR ?_
  intro p e s m args below meth c s₁ Bd hml0 hP hK
  obtain ⟨rfl, hZ, hh⟩ := hP
  have hx := Bd.exec
  have hby := Bd.bytes
  have hml : c.maxLocals = 5 := hml0
  have hown : s.vm.findClass "com/example/mensura/mensura/DoubleDouble" = some m.cls := findClass_of_methodNamed Bd.named
  have hnm := (name_of_methodNamed Bd.named Bd.method).1
  have X0 : Stand p l e ({ frames := 1, cells := 0, slots := 0, locals := 12 } : Room) s m #[(.ref a), (.double x), (.double y)] below meth c s₁ [] 0 0 := Stand.of_body Bd
  have e0 : s₁.heap = h0 := by rw [← hh, Bd.state]; rfl
  have N0 := Fr.nil n0
  have pre0 : ∀ t, Steps p.tables e below (s₁.setTop (mkF m 0 #[.val (.ref a), .val (.double x), .second, .val (.double y), .second] [])) t → Steps p.tables e below (s₁.setTop (entryFrame m #[(.ref a), (.double x), (.double y)] 5)) t := fun t k => castTop (ef_rm2 m a x y) k
  have sg1 : ∀ target, Steps p.tables e below (s₁.setTop (mkF m 1 #[.val (.ref a), .val (.double x), .second, .val (.double y), .second] [(.ref a)])) target → Steps p.tables e below (s₁.setTop (mkF m 0 #[.val (.ref a), .val (.double x), .second, .val (.double y), .second] [])) target := by
    intro target kt
    show Steps p.tables e below (s₁.setTop (mkF m 0 #[.val (.ref a), .val (.double x), .second, .val (.double y), .second] [])) _
    refine XS.aloadN X0.here hx rfl (hb hby d2_0) rfl rfl ?_
    exact kt
  obtain ⟨T2, X2, e2, st2⟩ := initO X0 hx hZ hown (hw _ (List.mem_of_getElem? (i := 12) rfl)) (hw _ (List.mem_of_getElem? (i := 13) rfl)) (hw _ (List.mem_of_getElem? (i := 14) rfl)) e0 (g := (mkF m 1 #[.val (.ref a), .val (.double x), .second, .val (.double y), .second] [(.ref a)])) rfl (by rw [hml]; rfl) rfl (hb hby d2_1) (by decide) (W := 0) (by show 2 * 0 + _ ≤ _; exact Nat.le_of_eq rfl) (by decide)
  have sg3 : ∀ target, Steps p.tables e below (T2.setTop (mkF m 6 #[.val (.ref a), .val (.double x), .second, .val (.double y), .second] [(.double x), (.ref a)])) target → Steps p.tables e below (T2.setTop (mkF m 4 #[.val (.ref a), .val (.double x), .second, .val (.double y), .second] [])) target := by
    intro target kt
    show Steps p.tables e below (T2.setTop (mkF m 4 #[.val (.ref a), .val (.double x), .second, .val (.double y), .second] [])) _
    refine XS.aloadN X2.here hx rfl (hb hby d2_4) rfl rfl ?_
    show Steps p.tables e below (T2.setTop (mkF m 5 #[.val (.ref a), .val (.double x), .second, .val (.double y), .second] [(.ref a)])) _
    refine XS.dloadN X2.here hx rfl (hb hby d2_5) rfl ?_
    exact kt
  obtain ⟨T4, h4, X4, e4, W4, st4⟩ := putF X2 hx hZ hown (host := "") (Or.inl (hw _ (List.mem_of_getElem? (i := 15) rfl))) Via.refl e2 F1 E_a (Or.inr ⟨(hw _ (List.mem_of_getElem? (i := 16) rfl)), rfl, hnm⟩) (hw _ (List.mem_of_getElem? (i := 8) rfl)) (ty := .double) (by decide) rfl rfl (g := (mkF m 6 #[.val (.ref a), .val (.double x), .second, .val (.double y), .second] [(.double x), (.ref a)])) rfl rfl (hb hby d2_6)
  have N4 := Fr.snoc X4 N0 g_a
  have Zs4 : n0 ≤ h4.size := by rw [W4.size]; exact Z0
  have K4 : Keep h0 h4 [a] := (Keep.refl h0 [a]).wr W4 (Or.inl (List.mem_of_getElem? (i := 0) rfl))
  have f5 : Exa Z h4 a "com/example/mensura/mensura/DoubleDouble" := E_a.wr W4
  have f6 : Fld Z h4 a "com/example/mensura/mensura/DoubleDouble" "low" "D" (.double (0 : UInt64)) := F2.other W4 (Or.inr (slot_ne (Or.inr (hw _ (List.mem_of_getElem? (i := 18) rfl))) (Or.inr (hw _ (List.mem_of_getElem? (i := 16) rfl))) (by decide) (t := .double) (t' := .double) (by decide) (by decide)))
  have f7 : Fld Z h4 a "com/example/mensura/mensura/DoubleDouble" "high" "D" (.double x) := F1.same W4
  have sg8 : ∀ target, Steps p.tables e below (T4.setTop (mkF m 11 #[.val (.ref a), .val (.double x), .second, .val (.double y), .second] [(.double y), (.ref a)])) target → Steps p.tables e below (T4.setTop (mkF m 9 #[.val (.ref a), .val (.double x), .second, .val (.double y), .second] [])) target := by
    intro target kt
    show Steps p.tables e below (T4.setTop (mkF m 9 #[.val (.ref a), .val (.double x), .second, .val (.double y), .second] [])) _
    refine XS.aloadN X4.here hx rfl (hb hby d2_9) rfl rfl ?_
    show Steps p.tables e below (T4.setTop (mkF m 10 #[.val (.ref a), .val (.double x), .second, .val (.double y), .second] [(.ref a)])) _
    refine XS.dloadN X4.here hx rfl (hb hby d2_10) rfl ?_
    exact kt
  obtain ⟨T9, h9, X9, e9, W9, st9⟩ := putF X4 hx hZ hown (host := "") (Or.inl (hw _ (List.mem_of_getElem? (i := 17) rfl))) Via.refl e4 f6 f5 (Or.inr ⟨(hw _ (List.mem_of_getElem? (i := 18) rfl)), rfl, hnm⟩) (hw _ (List.mem_of_getElem? (i := 8) rfl)) (ty := .double) (by decide) rfl rfl (g := (mkF m 11 #[.val (.ref a), .val (.double x), .second, .val (.double y), .second] [(.double y), (.ref a)])) rfl rfl (hb hby d2_11)
  have N9 := Fr.snoc X9 N4 g_a
  have Zs9 : n0 ≤ h9.size := by rw [W9.size]; exact Zs4
  have K9 : Keep h0 h9 [a] := K4.wr W9 (Or.inl (List.mem_of_getElem? (i := 0) rfl))
  have f10 : Exa Z h9 a "com/example/mensura/mensura/DoubleDouble" := f5.wr W9
  have f11 : Fld Z h9 a "com/example/mensura/mensura/DoubleDouble" "high" "D" (.double x) := f7.other W9 (Or.inr (slot_ne (Or.inr (hw _ (List.mem_of_getElem? (i := 16) rfl))) (Or.inr (hw _ (List.mem_of_getElem? (i := 18) rfl))) (by decide) (t := .double) (t' := .double) (by decide) (by decide)))
  have f12 : Fld Z h9 a "com/example/mensura/mensura/DoubleDouble" "low" "D" (.double y) := f6.same W9
  obtain ⟨fs, hr, hrun, hended, hW, hsame⟩ := X9.leave (v := none) (fun _ => rfl)
  refine ⟨_, _, pre0 _ ?_, hrun, hended, _, _, rfl, ?_, ⟨_, rfl⟩, hW, hsame.mono (by decide) (by decide)⟩
  · show Steps p.tables e below (s₁.setTop (mkF m 0 #[.val (.ref a), .val (.double x), .second, .val (.double y), .second] [])) _
    refine sg1 _ ?_
    refine st2 _ ?_
    refine sg3 _ ?_
    refine st4 _ ?_
    refine sg8 _ ?_
    refine st9 _ ?_
    show Steps p.tables e below (T9.setTop (mkF m 14 #[.val (.ref a), .val (.double x), .second, .val (.double y), .second] [])) _
    exact X9.returnOut hx Bd.returns (hb hby d2_14) hr
  · show Q_rm2 Z a x y h0 n0 _ T9.heap _
    rw [e9]
    exact ⟨rfl, N9, K9, f10, f11, f12⟩
theorem d1_0 : decode prog_22_method_2_code 0 = .ok (.new 8, 3) := by decide +kernel
theorem d1_3 : decode prog_22_method_2_code 3 = .ok (.dup, 1) := by decide +kernel
theorem d1_4 : decode prog_22_method_2_code 4 = .ok (.aload_n 0, 1) := by decide +kernel
theorem d1_5 : decode prog_22_method_2_code 5 = .ok (.iconst 0, 1) := by decide +kernel
theorem d1_6 : decode prog_22_method_2_code 6 = .ok (.daload, 1) := by decide +kernel
theorem d1_7 : decode prog_22_method_2_code 7 = .ok (.aload_n 0, 1) := by decide +kernel
theorem d1_8 : decode prog_22_method_2_code 8 = .ok (.iconst 1, 1) := by decide +kernel
theorem d1_9 : decode prog_22_method_2_code 9 = .ok (.daload, 1) := by decide +kernel
theorem d1_10 : decode prog_22_method_2_code 10 = .ok (.invokespecial 16, 3) := by decide +kernel
theorem pd_3 : parseMethodDescriptor "(DD)V" = some ⟨[.double, .double], none⟩ := by decide +kernel
theorem d1_13 : decode prog_22_method_2_code 13 = .ok (.areturn, 1) := by decide +kernel
theorem pn_1 : plainName "com/example/mensura/mensura/DoubleDouble" = true := by first | (simp [plainName, overriddenIn]; done) | decide +kernel
theorem ef_rm1 (m : MethodId) (x0 : Addr) : entryFrame m #[(.ref x0)] 1 = mkF m 0 #[.val (.ref x0)] [] := by first | (simp [entryFrame, mkF, argsToLocals, Value.category]; done) | rfl
def Q_rm1 (Z : State) (a : Addr) (ka : ClassId) (x : UInt64) (y : UInt64) (h0 : Heap) (n0 : Nat) (rv : Option Value) (h : Heap) (L : List Loc) : Prop := ∃ b : Addr, rv = some (.ref b) ∧ Fr n0 L ∧ h0.size ≤ b ∧ n0 ≤ b ∧ Keep h0 h [] ∧ Exa Z h b "com/example/mensura/mensura/DoubleDouble" ∧ Fld Z h b "com/example/mensura/mensura/DoubleDouble" "high" "D" (.double x) ∧ Fld Z h b "com/example/mensura/mensura/DoubleDouble" "low" "D" (.double y)
set_option maxRecDepth 65536 in
set_option maxHeartbeats 40000000 in
theorem rm1 (l : Launch) (Z : State) (a0 : Array Value) (hw : ∀ d ∈ tables_1, d.before a0 Z = true) (ws : List Jvm.Cond) (a : Addr) (ka : ClassId) (x : UInt64) (y : UInt64) (h0 : Heap) (n0 : Nat) (Z0 : n0 ≤ h0.size) (V_a : Arv Z h0 a ka .double (2 : Int32) [(.double x), (.double y)] (.double (0 : UInt64))) :
    MetFree l (⟨"com/example/mensura/mensura/DoubleDouble", "of", "([D)Lcom/example/mensura/mensura/DoubleDouble;"⟩ : MethodName) (head1 (Jvm.Cond.code (⟨"com/example/mensura/mensura/DoubleDouble", "of", "([D)Lcom/example/mensura/mensura/DoubleDouble;"⟩ : MethodName) prog_22_method_2_code 1 (some (.object "com/example/mensura/mensura/DoubleDouble")) :: ws) ({ frames := 2, cells := 1, slots := 2, locals := 29 } : Room)) (fun av U => av = #[(.ref a)] ∧ Z.Warmed39 U.vm ∧ U.heap = h0) (fun _ _ _ _ _ => True) (fun _ U o U' => ∃ rv L, o = .returned rv ∧ Q_rm1 Z a ka x y h0 n0 rv U'.heap L ∧ FrameEnd U o U' L ({ frames := 2, cells := 1, slots := 2, locals := 29 } : Room).cells ({ frames := 2, cells := 1, slots := 2, locals := 29 } : Room).slots) := by
  refine MetFree.of_bodySF (plainFor_of_name pn_1) hisR ?_
  intro p e s m args below meth c s₁ Bd hml0 hP hK
  obtain ⟨rfl, hZ, hh⟩ := hP
  have hx := Bd.exec
  have hby := Bd.bytes
  have hml : c.maxLocals = 1 := hml0
  have hown : s.vm.findClass "com/example/mensura/mensura/DoubleDouble" = some m.cls := findClass_of_methodNamed Bd.named
  have hnm := (name_of_methodNamed Bd.named Bd.method).1
  have X0 : Stand p l e ({ frames := 2, cells := 1, slots := 2, locals := 29 } : Room) s m #[(.ref a)] below meth c s₁ [] 0 0 := Stand.of_body Bd
  have e0 : s₁.heap = h0 := by rw [← hh, Bd.state]; rfl
  have N0 := Fr.nil n0
  have pre0 : ∀ t, Steps p.tables e below (s₁.setTop (mkF m 0 #[.val (.ref a)] [])) t → Steps p.tables e below (s₁.setTop (entryFrame m #[(.ref a)] 1)) t := fun t k => castTop (ef_rm1 m a) k
  obtain ⟨T1, h1, X1, e1, E1, A1, D1, -, st1⟩ := newO X0 hx hZ hown (hw _ (List.mem_of_getElem? (i := 7) rfl)) (hw _ (List.mem_of_getElem? (i := 8) rfl)) (hw _ (List.mem_of_getElem? (i := 5) rfl)) e0 (g := (mkF m 0 #[.val (.ref a)] [])) rfl (hb hby d1_0) (by decide) (by decide)
  obtain ⟨b1, g1⟩ : ∃ z, z = h0.size := ⟨_, rfl⟩
  rw [← g1] at A1 D1 st1
  have g_b1 : n0 ≤ b1 := Nat.le_trans Z0 (Nat.le_of_eq g1.symm)
  have sz_b1 : h0.size ≤ b1 := Nat.le_trans (Keep.refl h0 []).1 (Nat.le_of_eq g1.symm)
  have ne_a_b1 : a ≠ b1 := Nat.ne_of_lt (Nat.lt_of_lt_of_le V_a.lt (Nat.le_of_eq g1.symm))
  have Zs1 : n0 ≤ h1.size := Nat.le_trans Z0 E1.1
  have K1 : Keep h0 h1 [] := (Keep.refl h0 []).ext E1
  have f2 : Arv Z h1 a ka .double (2 : Int32) [(.double x), (.double y)] (.double (0 : UInt64)) := V_a.ext E1
  have f3 : Exa Z h1 b1 "com/example/mensura/mensura/DoubleDouble" := A1
  have f4 : Fld Z h1 b1 "com/example/mensura/mensura/DoubleDouble" "high" "D" (.double (0 : UInt64)) := D1 (Or.inr (hw _ (List.mem_of_getElem? (i := 16) rfl))) (ty := .double) (by decide)
  have f5 : Fld Z h1 b1 "com/example/mensura/mensura/DoubleDouble" "low" "D" (.double (0 : UInt64)) := D1 (Or.inr (hw _ (List.mem_of_getElem? (i := 18) rfl))) (ty := .double) (by decide)
  have sg6 : ∀ target, Steps p.tables e below (T1.setTop (mkF m 6 #[.val (.ref a)] [(.int (0 : Int32)), (.ref a), (.ref b1), (.ref b1)])) target → Steps p.tables e below (T1.setTop (mkF m 3 #[.val (.ref a)] [(.ref b1)])) target := by
    intro target kt
    show Steps p.tables e below (T1.setTop (mkF m 3 #[.val (.ref a)] [(.ref b1)])) _
    refine XS.dup X1.here hx rfl (hb hby d1_3) rfl rfl ?_
    show Steps p.tables e below (T1.setTop (mkF m 4 #[.val (.ref a)] [(.ref b1), (.ref b1)])) _
    refine XS.aloadN X1.here hx rfl (hb hby d1_4) rfl rfl ?_
    show Steps p.tables e below (T1.setTop (mkF m 5 #[.val (.ref a)] [(.ref a), (.ref b1), (.ref b1)])) _
    refine XS.iconst X1.here hx rfl (hb hby d1_5) ?_
    exact kt
  obtain ⟨cl7, Ar7, -, S7, M7, Hh7, -⟩ := id f2
  have hin7 : ¬ ((0 : Int32) < 0 ∨ cl7.slots.size ≤ ((0 : Int32)).toNatClampNeg) := inb_of S7 ⟨by decide, by decide⟩
  have hat7 : cl7.slots[((0 : Int32)).toNatClampNeg]? = some (.double x) := Hh7.at hin7 rfl
  have sg8 : ∀ target, Steps p.tables e below (T1.setTop (mkF m 9 #[.val (.ref a)] [(.int (1 : Int32)), (.ref a), (.double x), (.ref b1), (.ref b1)])) target → Steps p.tables e below (T1.setTop (mkF m 6 #[.val (.ref a)] [(.int (0 : Int32)), (.ref a), (.ref b1), (.ref b1)])) target := by
    intro target kt
    show Steps p.tables e below (T1.setTop (mkF m 6 #[.val (.ref a)] [(.int (0 : Int32)), (.ref a), (.ref b1), (.ref b1)])) _
    refine X1.daload hx (j := (0 : Int32)) (v := (.double x)) (by rw [e1]; exact Ar7.1) (State.isArrayOf_alike hZ.alike Ar7.2.1) Ar7.2.2 hin7 hat7 (g := (mkF m 6 #[.val (.ref a)] [(.int (0 : Int32)), (.ref a), (.ref b1), (.ref b1)])) rfl rfl (hb hby d1_6) _ ?_
    show Steps p.tables e below (T1.setTop (mkF m 7 #[.val (.ref a)] [(.double x), (.ref b1), (.ref b1)])) _
    refine XS.aloadN X1.here hx rfl (hb hby d1_7) rfl rfl ?_
    show Steps p.tables e below (T1.setTop (mkF m 8 #[.val (.ref a)] [(.ref a), (.double x), (.ref b1), (.ref b1)])) _
    refine XS.iconst X1.here hx rfl (hb hby d1_8) ?_
    exact kt
  obtain ⟨cl9, Ar9, -, S9, M9, Hh9, -⟩ := id f2
  have hin9 : ¬ ((1 : Int32) < 0 ∨ cl9.slots.size ≤ ((1 : Int32)).toNatClampNeg) := inb_of S9 ⟨by decide, by decide⟩
  have hat9 : cl9.slots[((1 : Int32)).toNatClampNeg]? = some (.double y) := Hh9.at hin9 rfl
  have sg10 : ∀ target, Steps p.tables e below (T1.setTop (mkF m 10 #[.val (.ref a)] [(.double y), (.double x), (.ref b1), (.ref b1)])) target → Steps p.tables e below (T1.setTop (mkF m 9 #[.val (.ref a)] [(.int (1 : Int32)), (.ref a), (.double x), (.ref b1), (.ref b1)])) target := by
    intro target kt
    show Steps p.tables e below (T1.setTop (mkF m 9 #[.val (.ref a)] [(.int (1 : Int32)), (.ref a), (.double x), (.ref b1), (.ref b1)])) _
    refine X1.daload hx (j := (1 : Int32)) (v := (.double y)) (by rw [e1]; exact Ar9.1) (State.isArrayOf_alike hZ.alike Ar9.2.1) Ar9.2.2 hin9 hat9 (g := (mkF m 9 #[.val (.ref a)] [(.int (1 : Int32)), (.ref a), (.double x), (.ref b1), (.ref b1)])) rfl rfl (hb hby d1_9) _ ?_
    exact kt
  obtain ⟨_, _, ⟨T11, L11, k11, n11⟩, -, X11, ⟨Lc11, hQ11, l11, y11, z11⟩, st11⟩ := X1.specialBack hx (y := (⟨"com/example/mensura/mensura/DoubleDouble", "<init>", "(DD)V"⟩ : MethodName)) rfl hown (mvT hZ (hw _ (List.mem_of_getElem? (i := 9) rfl))) (mvT hZ (hw _ (List.mem_of_getElem? (i := 10) rfl))) (mvT hZ (hw _ (List.mem_of_getElem? (i := 11) rfl))) (by decide) (backOf (W := 1) (rm2 l Z a0 hw [] b1 x y h1 n0 Zs1 f3 f4 f5 g_b1) hZ (hw _ (List.mem_of_getElem? (i := 11) rfl)) (hw _ (List.mem_of_getElem? (i := 5) rfl)) (by decide) (by decide)) (g := (mkF m 10 #[.val (.ref a)] [(.double y), (.double x), (.ref b1), (.ref b1)])) rfl (by rw [hml]; rfl) (Steps.refl _) (a := b1) (argsL := [(.double x), (.double y)]) (rest := [(.ref b1)]) (lenOf pd_3 rfl) rfl (by show 2 * 0 + _ ≤ _; exact Nat.le_of_eq rfl) (hb hby d1_10) (fun _ _ => ⟨rfl, e1, (by decide : 1 + 0 ≤ _), (by decide : 2 + 0 ≤ _)⟩)
  dsimp only [Pt.U, Pt.locs, Pt.cells, Pt.slots] at X11 l11 y11 z11 st11 hQ11
  subst l11 y11 z11
  obtain ⟨rfl, N11q, c11_0, c11_1, c11_2, c11_3⟩ := hQ11
  have N11 := Fr.app N0 N11q
  have Zs11 : n0 ≤ T11.heap.size := Nat.le_trans Zs1 c11_0.1
  have K11 : Keep h0 T11.heap [] := K1.trans c11_0 (allS (Or.inr sz_b1) all0)
  have f12 : Arv Z T11.heap a ka .double (2 : Int32) [(.double x), (.double y)] (.double (0 : UInt64)) := f2.keep c11_0 (ninS ne_a_b1 nin0)
  have f13 : Exa Z T11.heap b1 "com/example/mensura/mensura/DoubleDouble" := c11_1
  have f14 : Fld Z T11.heap b1 "com/example/mensura/mensura/DoubleDouble" "high" "D" (.double x) := c11_2
  have f15 : Fld Z T11.heap b1 "com/example/mensura/mensura/DoubleDouble" "low" "D" (.double y) := c11_3
  obtain ⟨fs, hr, hrun, hended, hW, hsame⟩ := X11.leave (v := some (.ref b1)) (fun h => by rw [Bd.returns] at h; cases h)
  refine ⟨_, _, pre0 _ ?_, hrun, hended, _, _, rfl, ?_, ⟨_, rfl⟩, hW, hsame.mono (by decide) (by decide)⟩
  · show Steps p.tables e below (s₁.setTop (mkF m 0 #[.val (.ref a)] [])) _
    refine st1 _ ?_
    refine sg6 _ ?_
    refine sg8 _ ?_
    refine sg10 _ ?_
    refine st11.trans ?_
    show Steps p.tables e below (T11.setTop (mkF m 13 #[.val (.ref a)] [(.ref b1)])) _
    exact retOut X11 hx Bd.returns rfl (Or.inr (Or.inr (Or.inr (Or.inr ⟨rfl, rfl, rfl⟩)))) (hb hby d1_13) hr
  · show Q_rm1 Z a ka x y h0 n0 _ T11.heap _
    exact ⟨b1, rfl, N11, sz_b1, g_b1, K11, f13, f14, f15⟩
theorem d4_0 : decode prog_22_method_10_code 0 = .ok (.aload_n 0, 1) := by decide +kernel
theorem d4_1 : decode prog_22_method_10_code 1 = .ok (.getfield 7, 3) := by decide +kernel
theorem d4_4 : decode prog_22_method_10_code 4 = .ok (.dreturn, 1) := by decide +kernel
theorem pn_4 : plainName "com/example/mensura/mensura/DoubleDouble" = true := by first | (simp [plainName, overriddenIn]; done) | decide +kernel
theorem ef_rm4 (m : MethodId) (x0 : Addr) : entryFrame m #[(.ref x0)] 1 = mkF m 0 #[.val (.ref x0)] [] := by first | (simp [entryFrame, mkF, argsToLocals, Value.category]; done) | rfl
def Q_rm4 (Z : State) (a : Addr) (x : UInt64) (h0 : Heap) (n0 : Nat) (rv : Option Value) (h : Heap) (L : List Loc) : Prop := rv = some (.double x) ∧ Fr n0 L ∧ h = h0
set_option maxRecDepth 65536 in
set_option maxHeartbeats 40000000 in
theorem rm4 (l : Launch) (Z : State) (a0 : Array Value) (hw : ∀ d ∈ tables_1, d.before a0 Z = true) (ws : List Jvm.Cond) (a : Addr) (x : UInt64) (h0 : Heap) (n0 : Nat) (Z0 : n0 ≤ h0.size) (F1 : Fld Z h0 a "com/example/mensura/mensura/DoubleDouble" "high" "D" (.double x)) :
    MetFree l (⟨"com/example/mensura/mensura/DoubleDouble", "high", "()D"⟩ : MethodName) (head1 (Jvm.Cond.code (⟨"com/example/mensura/mensura/DoubleDouble", "high", "()D"⟩ : MethodName) prog_22_method_10_code 1 (some .double) :: ws) ({ frames := 0, cells := 0, slots := 0, locals := 0 } : Room)) (fun av U => av = #[(.ref a)] ∧ Z.Warmed39 U.vm ∧ U.heap = h0) (fun _ _ _ _ _ => True) (fun _ U o U' => ∃ rv L, o = .returned rv ∧ Q_rm4 Z a x h0 n0 rv U'.heap L ∧ FrameEnd U o U' L ({ frames := 0, cells := 0, slots := 0, locals := 0 } : Room).cells ({ frames := 0, cells := 0, slots := 0, locals := 0 } : Room).slots) := by
  refine MetFree.of_bodySF (plainFor_of_name pn_4) hisR ?_
  intro p e s m args below meth c s₁ Bd hml0 hP hK
  obtain ⟨rfl, hZ, hh⟩ := hP
  have hx := Bd.exec
  have hby := Bd.bytes
  have hml : c.maxLocals = 1 := hml0
  have hown : s.vm.findClass "com/example/mensura/mensura/DoubleDouble" = some m.cls := findClass_of_methodNamed Bd.named
  have hnm := (name_of_methodNamed Bd.named Bd.method).1
  have X0 : Stand p l e ({ frames := 0, cells := 0, slots := 0, locals := 0 } : Room) s m #[(.ref a)] below meth c s₁ [] 0 0 := Stand.of_body Bd
  have e0 : s₁.heap = h0 := by rw [← hh, Bd.state]; rfl
  have N0 := Fr.nil n0
  have pre0 : ∀ t, Steps p.tables e below (s₁.setTop (mkF m 0 #[.val (.ref a)] [])) t → Steps p.tables e below (s₁.setTop (entryFrame m #[(.ref a)] 1)) t := fun t k => castTop (ef_rm4 m a) k
  have sg1 : ∀ target, Steps p.tables e below (s₁.setTop (mkF m 1 #[.val (.ref a)] [(.ref a)])) target → Steps p.tables e below (s₁.setTop (mkF m 0 #[.val (.ref a)] [])) target := by
    intro target kt
    show Steps p.tables e below (s₁.setTop (mkF m 0 #[.val (.ref a)] [])) _
    refine XS.aloadN X0.here hx rfl (hb hby d4_0) rfl rfl ?_
    exact kt
  obtain ⟨T2, X2, e2, st2⟩ := getF X0 hx hZ hown (host := "") (Or.inl (hw _ (List.mem_of_getElem? (i := 15) rfl))) Via.refl e0 F1 (g := (mkF m 1 #[.val (.ref a)] [(.ref a)])) rfl rfl (hb hby d4_1)
  obtain ⟨fs, hr, hrun, hended, hW, hsame⟩ := X2.leave (v := some (.double x)) (fun h => by rw [Bd.returns] at h; cases h)
  refine ⟨_, _, pre0 _ ?_, hrun, hended, _, _, rfl, ?_, ⟨_, rfl⟩, hW, hsame.mono (by decide) (by decide)⟩
  · show Steps p.tables e below (s₁.setTop (mkF m 0 #[.val (.ref a)] [])) _
    refine sg1 _ ?_
    refine st2 _ ?_
    show Steps p.tables e below (T2.setTop (mkF m 4 #[.val (.ref a)] [(.double x)])) _
    exact retOut X2 hx Bd.returns rfl (Or.inr (Or.inr (Or.inl ⟨rfl, rfl, _, rfl⟩))) (hb hby d4_4) hr
  · show Q_rm4 Z a x h0 n0 _ T2.heap _
    rw [e2]
    exact ⟨rfl, N0, rfl⟩
theorem d5_0 : decode prog_22_method_11_code 0 = .ok (.aload_n 0, 1) := by decide +kernel
theorem d5_1 : decode prog_22_method_11_code 1 = .ok (.getfield 13, 3) := by decide +kernel
theorem d5_4 : decode prog_22_method_11_code 4 = .ok (.dreturn, 1) := by decide +kernel
theorem pn_5 : plainName "com/example/mensura/mensura/DoubleDouble" = true := by first | (simp [plainName, overriddenIn]; done) | decide +kernel
theorem ef_rm5 (m : MethodId) (x0 : Addr) : entryFrame m #[(.ref x0)] 1 = mkF m 0 #[.val (.ref x0)] [] := by first | (simp [entryFrame, mkF, argsToLocals, Value.category]; done) | rfl
def Q_rm5 (Z : State) (a : Addr) (x : UInt64) (h0 : Heap) (n0 : Nat) (rv : Option Value) (h : Heap) (L : List Loc) : Prop := rv = some (.double x) ∧ Fr n0 L ∧ h = h0
set_option maxRecDepth 65536 in
set_option maxHeartbeats 40000000 in
theorem rm5 (l : Launch) (Z : State) (a0 : Array Value) (hw : ∀ d ∈ tables_1, d.before a0 Z = true) (ws : List Jvm.Cond) (a : Addr) (x : UInt64) (h0 : Heap) (n0 : Nat) (Z0 : n0 ≤ h0.size) (F1 : Fld Z h0 a "com/example/mensura/mensura/DoubleDouble" "low" "D" (.double x)) :
    MetFree l (⟨"com/example/mensura/mensura/DoubleDouble", "low", "()D"⟩ : MethodName) (head1 (Jvm.Cond.code (⟨"com/example/mensura/mensura/DoubleDouble", "low", "()D"⟩ : MethodName) prog_22_method_11_code 1 (some .double) :: ws) ({ frames := 0, cells := 0, slots := 0, locals := 0 } : Room)) (fun av U => av = #[(.ref a)] ∧ Z.Warmed39 U.vm ∧ U.heap = h0) (fun _ _ _ _ _ => True) (fun _ U o U' => ∃ rv L, o = .returned rv ∧ Q_rm5 Z a x h0 n0 rv U'.heap L ∧ FrameEnd U o U' L ({ frames := 0, cells := 0, slots := 0, locals := 0 } : Room).cells ({ frames := 0, cells := 0, slots := 0, locals := 0 } : Room).slots) := by
  refine MetFree.of_bodySF (plainFor_of_name pn_5) hisR ?_
  intro p e s m args below meth c s₁ Bd hml0 hP hK
  obtain ⟨rfl, hZ, hh⟩ := hP
  have hx := Bd.exec
  have hby := Bd.bytes
  have hml : c.maxLocals = 1 := hml0
  have hown : s.vm.findClass "com/example/mensura/mensura/DoubleDouble" = some m.cls := findClass_of_methodNamed Bd.named
  have hnm := (name_of_methodNamed Bd.named Bd.method).1
  have X0 : Stand p l e ({ frames := 0, cells := 0, slots := 0, locals := 0 } : Room) s m #[(.ref a)] below meth c s₁ [] 0 0 := Stand.of_body Bd
  have e0 : s₁.heap = h0 := by rw [← hh, Bd.state]; rfl
  have N0 := Fr.nil n0
  have pre0 : ∀ t, Steps p.tables e below (s₁.setTop (mkF m 0 #[.val (.ref a)] [])) t → Steps p.tables e below (s₁.setTop (entryFrame m #[(.ref a)] 1)) t := fun t k => castTop (ef_rm5 m a) k
  have sg1 : ∀ target, Steps p.tables e below (s₁.setTop (mkF m 1 #[.val (.ref a)] [(.ref a)])) target → Steps p.tables e below (s₁.setTop (mkF m 0 #[.val (.ref a)] [])) target := by
    intro target kt
    show Steps p.tables e below (s₁.setTop (mkF m 0 #[.val (.ref a)] [])) _
    refine XS.aloadN X0.here hx rfl (hb hby d5_0) rfl rfl ?_
    exact kt
  obtain ⟨T2, X2, e2, st2⟩ := getF X0 hx hZ hown (host := "") (Or.inl (hw _ (List.mem_of_getElem? (i := 17) rfl))) Via.refl e0 F1 (g := (mkF m 1 #[.val (.ref a)] [(.ref a)])) rfl rfl (hb hby d5_1)
  obtain ⟨fs, hr, hrun, hended, hW, hsame⟩ := X2.leave (v := some (.double x)) (fun h => by rw [Bd.returns] at h; cases h)
  refine ⟨_, _, pre0 _ ?_, hrun, hended, _, _, rfl, ?_, ⟨_, rfl⟩, hW, hsame.mono (by decide) (by decide)⟩
  · show Steps p.tables e below (s₁.setTop (mkF m 0 #[.val (.ref a)] [])) _
    refine sg1 _ ?_
    refine st2 _ ?_
    show Steps p.tables e below (T2.setTop (mkF m 4 #[.val (.ref a)] [(.double x)])) _
    exact retOut X2 hx Bd.returns rfl (Or.inr (Or.inr (Or.inl ⟨rfl, rfl, _, rfl⟩))) (hb hby d5_4) hr
  · show Q_rm5 Z a x h0 n0 _ T2.heap _
    rw [e2]
    exact ⟨rfl, N0, rfl⟩
def own_h (a : Int64) : UInt64 := FP.ddiv (FP.l2d a) (4634204016564240384 : UInt64)
def own_l (b : Int64) : UInt64 := FP.ddiv (FP.l2d b) (4697254411347427328 : UInt64)
theorem own_h_nn (a : Int64) : Jvm.Free.Fl.NoNaN64 (FP.ddiv (FP.l2d a) (4634204016564240384 : UInt64)) := Jvm.Free.Fl.ddiv_out (Jvm.Free.Fl.l2d_fin a).noNaN (by unfold Jvm.Free.Fl.Fin64; decide) (by unfold Jvm.Free.Fl.Nz64; decide)
theorem own_l_nn (a : Int64) : Jvm.Free.Fl.NoNaN64 (FP.ddiv (FP.l2d a) (4697254411347427328 : UInt64)) := Jvm.Free.Fl.ddiv_out (Jvm.Free.Fl.l2d_fin a).noNaN (by unfold Jvm.Free.Fl.Fin64; decide) (by unfold Jvm.Free.Fl.Nz64; decide)
theorem pd_4 : parseMethodDescriptor "([D)Lcom/example/mensura/mensura/DoubleDouble;" = some ⟨[(.array .double)], some (.object "com/example/mensura/mensura/DoubleDouble")⟩ := by decide +kernel
theorem pd_1 : parseMethodDescriptor "()D" = some ⟨[], some .double⟩ := by decide +kernel
theorem pn_0 : plainName "com/example/mensura/mensura/DoubleDoubleOfPinLaw" = true := by first | (simp [plainName, overriddenIn]; done) | decide +kernel
theorem ef_rm0 (m : MethodId) (x0 : Int64) (x1 : Int64) (x2 : Int32) (x3 : Int32) : entryFrame m #[(.long x0), (.long x1), (.int x2), (.int x3)] maxLocals = mkF m 0 #[.val (.long x0), .second, .val (.long x1), .second, .val (.int x2), .val (.int x3), .unset, .unset, .unset, .unset, .unset, .unset, .unset] [] := by first | (simp [entryFrame, mkF, argsToLocals, Value.category, maxLocals]; done) | rfl
def Q_rm0 (Z : State) (q1 : Int64) (q2 : Int64) (p3 : Int32) (p4 : Int32) (h0 : Heap) (n0 : Nat) (rv : Option Value) (h : Heap) (L : List Loc) : Prop := rv = some (.int 1) ∧ Fr n0 L
set_option maxRecDepth 65536 in
set_option maxHeartbeats 40000000 in
theorem rm0 (l : Launch) (Z : State) (a0 : Array Value) (hw : ∀ d ∈ tables_1, d.before a0 Z = true) (ws : List Jvm.Cond) (q1 : Int64) (q2 : Int64) (p3 : Int32) (p4 : Int32) (h0 : Heap) (n0 : Nat) (Z0 : n0 ≤ h0.size) :
    MetFree l x (head1 (Jvm.Cond.code x code maxLocals ret :: ws) room_1) (fun av U => av = #[(.long q1), (.long q2), (.int p3), (.int p4)] ∧ Z.Warmed39 U.vm ∧ U.heap = h0) (fun _ _ _ _ _ => True) (fun _ U o U' => ∃ rv L, o = .returned rv ∧ Q_rm0 Z q1 q2 p3 p4 h0 n0 rv U'.heap L ∧ FrameEnd U o U' L room_1.cells room_1.slots) := by
  refine MetFree.of_bodySF (plainFor_of_name pn_0) hisR ?_
  intro p e s m args below meth c s₁ Bd hml0 hP hK
  obtain ⟨rfl, hZ, hh⟩ := hP
  have hx := Bd.exec
  have hby := Bd.bytes
  have hml : c.maxLocals = 13 := hml0
  have hown : s.vm.findClass "com/example/mensura/mensura/DoubleDoubleOfPinLaw" = some m.cls := findClass_of_methodNamed Bd.named
  have hnm := (name_of_methodNamed Bd.named Bd.method).1
  have X0 : Stand p l e room_1 s m #[(.long q1), (.long q2), (.int p3), (.int p4)] below meth c s₁ [] 0 0 := Stand.of_body Bd
  have e0 : s₁.heap = h0 := by rw [← hh, Bd.state]; rfl
  have N0 := Fr.nil n0
  have pre0 : ∀ t, Steps p.tables e below (s₁.setTop (mkF m 0 #[.val (.long q1), .second, .val (.long q2), .second, .val (.int p3), .val (.int p4), .unset, .unset, .unset, .unset, .unset, .unset, .unset] [])) t → Steps p.tables e below (s₁.setTop (entryFrame m #[(.long q1), (.long q2), (.int p3), (.int p4)] maxLocals)) t := fun t k => castTop (ef_rm0 m q1 q2 p3 p4) k
  have sg1 : ∀ target, Steps p.tables e below (s₁.setTop (mkF m 17 #[.val (.long q1), .second, .val (.long q2), .second, .val (.int p3), .val (.int p4), .val (.double (own_h q1)), .second, .val (.double (own_l q2)), .second, .unset, .unset, .unset] [(.int (2 : Int32))])) target → Steps p.tables e below (s₁.setTop (mkF m 0 #[.val (.long q1), .second, .val (.long q2), .second, .val (.int p3), .val (.int p4), .unset, .unset, .unset, .unset, .unset, .unset, .unset] [])) target := by
    intro target kt
    show Steps p.tables e below (s₁.setTop (mkF m 0 #[.val (.long q1), .second, .val (.long q2), .second, .val (.int p3), .val (.int p4), .unset, .unset, .unset, .unset, .unset, .unset, .unset] [])) _
    refine XS.lloadN X0.here hx rfl (hb hby at_0) rfl ?_
    show Steps p.tables e below (s₁.setTop (mkF m 1 #[.val (.long q1), .second, .val (.long q2), .second, .val (.int p3), .val (.int p4), .unset, .unset, .unset, .unset, .unset, .unset, .unset] [(.long q1)])) _
    refine XS.l2dS X0.here hx rfl (v := (FP.l2d q1)) (hb hby at_1) rfl rfl ?_
    show Steps p.tables e below (s₁.setTop (mkF m 2 #[.val (.long q1), .second, .val (.long q2), .second, .val (.int p3), .val (.int p4), .unset, .unset, .unset, .unset, .unset, .unset, .unset] [(.double (FP.l2d q1))])) _
    refine X0.ldc2DoubleC hx hown (mvT hZ (hw _ (List.mem_of_getElem? (i := 0) rfl))) (g := (mkF m 2 #[.val (.long q1), .second, .val (.long q2), .second, .val (.int p3), .val (.int p4), .unset, .unset, .unset, .unset, .unset, .unset, .unset] [(.double (FP.l2d q1))])) rfl (hb hby at_2) _ ?_
    show Steps p.tables e below (s₁.setTop (mkF m 5 #[.val (.long q1), .second, .val (.long q2), .second, .val (.int p3), .val (.int p4), .unset, .unset, .unset, .unset, .unset, .unset, .unset] [(.double (4634204016564240384 : UInt64)), (.double (FP.l2d q1))])) _
    refine XS.ddivS X0.here hx rfl (v := (own_h q1)) (hb hby at_5) rfl (own_h_nn q1) rfl ?_
    show Steps p.tables e below (s₁.setTop (mkF m 6 #[.val (.long q1), .second, .val (.long q2), .second, .val (.int p3), .val (.int p4), .unset, .unset, .unset, .unset, .unset, .unset, .unset] [(.double (own_h q1))])) _
    refine XS.dstore X0.here hx rfl (hb hby at_6) rfl (l' := #[.val (.long q1), .second, .val (.long q2), .second, .val (.int p3), .val (.int p4), .val (.double (own_h q1)), .second, .unset, .unset, .unset, .unset, .unset]) rfl ?_
    show Steps p.tables e below (s₁.setTop (mkF m 8 #[.val (.long q1), .second, .val (.long q2), .second, .val (.int p3), .val (.int p4), .val (.double (own_h q1)), .second, .unset, .unset, .unset, .unset, .unset] [])) _
    refine XS.lloadN X0.here hx rfl (hb hby at_8) rfl ?_
    show Steps p.tables e below (s₁.setTop (mkF m 9 #[.val (.long q1), .second, .val (.long q2), .second, .val (.int p3), .val (.int p4), .val (.double (own_h q1)), .second, .unset, .unset, .unset, .unset, .unset] [(.long q2)])) _
    refine XS.l2dS X0.here hx rfl (v := (FP.l2d q2)) (hb hby at_9) rfl rfl ?_
    show Steps p.tables e below (s₁.setTop (mkF m 10 #[.val (.long q1), .second, .val (.long q2), .second, .val (.int p3), .val (.int p4), .val (.double (own_h q1)), .second, .unset, .unset, .unset, .unset, .unset] [(.double (FP.l2d q2))])) _
    refine X0.ldc2DoubleC hx hown (mvT hZ (hw _ (List.mem_of_getElem? (i := 1) rfl))) (g := (mkF m 10 #[.val (.long q1), .second, .val (.long q2), .second, .val (.int p3), .val (.int p4), .val (.double (own_h q1)), .second, .unset, .unset, .unset, .unset, .unset] [(.double (FP.l2d q2))])) rfl (hb hby at_10) _ ?_
    show Steps p.tables e below (s₁.setTop (mkF m 13 #[.val (.long q1), .second, .val (.long q2), .second, .val (.int p3), .val (.int p4), .val (.double (own_h q1)), .second, .unset, .unset, .unset, .unset, .unset] [(.double (4697254411347427328 : UInt64)), (.double (FP.l2d q2))])) _
    refine XS.ddivS X0.here hx rfl (v := (own_l q2)) (hb hby at_13) rfl (own_l_nn q2) rfl ?_
    show Steps p.tables e below (s₁.setTop (mkF m 14 #[.val (.long q1), .second, .val (.long q2), .second, .val (.int p3), .val (.int p4), .val (.double (own_h q1)), .second, .unset, .unset, .unset, .unset, .unset] [(.double (own_l q2))])) _
    refine XS.dstore X0.here hx rfl (hb hby at_14) rfl (l' := #[.val (.long q1), .second, .val (.long q2), .second, .val (.int p3), .val (.int p4), .val (.double (own_h q1)), .second, .val (.double (own_l q2)), .second, .unset, .unset, .unset]) rfl ?_
    show Steps p.tables e below (s₁.setTop (mkF m 16 #[.val (.long q1), .second, .val (.long q2), .second, .val (.int p3), .val (.int p4), .val (.double (own_h q1)), .second, .val (.double (own_l q2)), .second, .unset, .unset, .unset] [])) _
    refine XS.iconst X0.here hx rfl (hb hby at_16) ?_
    exact kt
  obtain ⟨T2, h2, k2, X2, e2, E2, A2, st2⟩ := newP X0 hx hZ (hw _ (List.mem_of_getElem? (i := 2) rfl)) e0 (g := (mkF m 17 #[.val (.long q1), .second, .val (.long q2), .second, .val (.int p3), .val (.int p4), .val (.double (own_h q1)), .second, .val (.double (own_l q2)), .second, .unset, .unset, .unset] [(.int (2 : Int32))])) rfl (hb hby at_17) rfl (by decide) (cap := 2) (by decide) (by decide) (by decide) (by decide)
  obtain ⟨b2, g2⟩ : ∃ z, z = h0.size := ⟨_, rfl⟩
  rw [← g2] at A2 st2
  have g_b2 : n0 ≤ b2 := Nat.le_trans Z0 (Nat.le_of_eq g2.symm)
  have Zs2 : n0 ≤ h2.size := Nat.le_trans Z0 E2.1
  have f3 : Arv Z h2 b2 k2 .double (2 : Int32) [(.double (0 : UInt64)), (.double (0 : UInt64))] (.double (0 : UInt64)) := (Arv.new A2 (by decide)).pad (pad_rep [] (.double (0 : UInt64)) 2)
  have sg4 : ∀ target, Steps p.tables e below (T2.setTop (mkF m 26 #[.val (.long q1), .second, .val (.long q2), .second, .val (.int p3), .val (.int p4), .val (.double (own_h q1)), .second, .val (.double (own_l q2)), .second, .val (.ref b2), .unset, .unset] [(.double (own_h q1)), (.int (0 : Int32)), (.ref b2)])) target → Steps p.tables e below (T2.setTop (mkF m 19 #[.val (.long q1), .second, .val (.long q2), .second, .val (.int p3), .val (.int p4), .val (.double (own_h q1)), .second, .val (.double (own_l q2)), .second, .unset, .unset, .unset] [(.ref b2)])) target := by
    intro target kt
    show Steps p.tables e below (T2.setTop (mkF m 19 #[.val (.long q1), .second, .val (.long q2), .second, .val (.int p3), .val (.int p4), .val (.double (own_h q1)), .second, .val (.double (own_l q2)), .second, .unset, .unset, .unset] [(.ref b2)])) _
    refine XS.astore X2.here hx rfl (hb hby at_19) rfl rfl (l' := #[.val (.long q1), .second, .val (.long q2), .second, .val (.int p3), .val (.int p4), .val (.double (own_h q1)), .second, .val (.double (own_l q2)), .second, .val (.ref b2), .unset, .unset]) rfl ?_
    show Steps p.tables e below (T2.setTop (mkF m 21 #[.val (.long q1), .second, .val (.long q2), .second, .val (.int p3), .val (.int p4), .val (.double (own_h q1)), .second, .val (.double (own_l q2)), .second, .val (.ref b2), .unset, .unset] [])) _
    refine XS.aload X2.here hx rfl (hb hby at_21) rfl rfl ?_
    show Steps p.tables e below (T2.setTop (mkF m 23 #[.val (.long q1), .second, .val (.long q2), .second, .val (.int p3), .val (.int p4), .val (.double (own_h q1)), .second, .val (.double (own_l q2)), .second, .val (.ref b2), .unset, .unset] [(.ref b2)])) _
    refine XS.iconst X2.here hx rfl (hb hby at_23) ?_
    show Steps p.tables e below (T2.setTop (mkF m 24 #[.val (.long q1), .second, .val (.long q2), .second, .val (.int p3), .val (.int p4), .val (.double (own_h q1)), .second, .val (.double (own_l q2)), .second, .val (.ref b2), .unset, .unset] [(.int (0 : Int32)), (.ref b2)])) _
    refine XS.dload X2.here hx rfl (hb hby at_24) rfl ?_
    exact kt
  obtain ⟨cl5, Ar5, qc5, S5, M5, Hh5, G5⟩ := id f3
  have hin5 : ¬ ((0 : Int32) < 0 ∨ cl5.slots.size ≤ ((0 : Int32)).toNatClampNeg) := inb_of S5 ⟨by decide, by decide⟩
  obtain ⟨T6, h6, X6, e6, W6, st6⟩ := stD X2 hx hZ e2 Ar5 (j := (0 : Int32)) hin5 (g := (mkF m 26 #[.val (.long q1), .second, .val (.long q2), .second, .val (.int p3), .val (.int p4), .val (.double (own_h q1)), .second, .val (.double (own_l q2)), .second, .val (.ref b2), .unset, .unset] [(.double (own_h q1)), (.int (0 : Int32)), (.ref b2)])) rfl rfl (hb hby at_26)
  have N6 := Fr.snoc X6 N0 g_b2
  have Zs6 : n0 ≤ h6.size := by rw [W6.size]; exact Zs2
  have f7 : Arv Z h6 b2 k2 .double (2 : Int32) [(.double (own_h q1)), (.double (0 : UInt64))] (.double (0 : UInt64)) := Arv.set Ar5 qc5 S5 M5 Hh5 G5 rfl W6 0 rfl (Nat.le_of_ble_eq_true rfl)
  have sg8 : ∀ target, Steps p.tables e below (T6.setTop (mkF m 32 #[.val (.long q1), .second, .val (.long q2), .second, .val (.int p3), .val (.int p4), .val (.double (own_h q1)), .second, .val (.double (own_l q2)), .second, .val (.ref b2), .unset, .unset] [(.double (own_l q2)), (.int (1 : Int32)), (.ref b2)])) target → Steps p.tables e below (T6.setTop (mkF m 27 #[.val (.long q1), .second, .val (.long q2), .second, .val (.int p3), .val (.int p4), .val (.double (own_h q1)), .second, .val (.double (own_l q2)), .second, .val (.ref b2), .unset, .unset] [])) target := by
    intro target kt
    show Steps p.tables e below (T6.setTop (mkF m 27 #[.val (.long q1), .second, .val (.long q2), .second, .val (.int p3), .val (.int p4), .val (.double (own_h q1)), .second, .val (.double (own_l q2)), .second, .val (.ref b2), .unset, .unset] [])) _
    refine XS.aload X6.here hx rfl (hb hby at_27) rfl rfl ?_
    show Steps p.tables e below (T6.setTop (mkF m 29 #[.val (.long q1), .second, .val (.long q2), .second, .val (.int p3), .val (.int p4), .val (.double (own_h q1)), .second, .val (.double (own_l q2)), .second, .val (.ref b2), .unset, .unset] [(.ref b2)])) _
    refine XS.iconst X6.here hx rfl (hb hby at_29) ?_
    show Steps p.tables e below (T6.setTop (mkF m 30 #[.val (.long q1), .second, .val (.long q2), .second, .val (.int p3), .val (.int p4), .val (.double (own_h q1)), .second, .val (.double (own_l q2)), .second, .val (.ref b2), .unset, .unset] [(.int (1 : Int32)), (.ref b2)])) _
    refine XS.dload X6.here hx rfl (hb hby at_30) rfl ?_
    exact kt
  obtain ⟨cl9, Ar9, qc9, S9, M9, Hh9, G9⟩ := id f7
  have hin9 : ¬ ((1 : Int32) < 0 ∨ cl9.slots.size ≤ ((1 : Int32)).toNatClampNeg) := inb_of S9 ⟨by decide, by decide⟩
  obtain ⟨T10, h10, X10, e10, W10, st10⟩ := stD X6 hx hZ e6 Ar9 (j := (1 : Int32)) hin9 (g := (mkF m 32 #[.val (.long q1), .second, .val (.long q2), .second, .val (.int p3), .val (.int p4), .val (.double (own_h q1)), .second, .val (.double (own_l q2)), .second, .val (.ref b2), .unset, .unset] [(.double (own_l q2)), (.int (1 : Int32)), (.ref b2)])) rfl rfl (hb hby at_32)
  have N10 := Fr.snoc X10 N6 g_b2
  have Zs10 : n0 ≤ h10.size := by rw [W10.size]; exact Zs6
  have f11 : Arv Z h10 b2 k2 .double (2 : Int32) [(.double (own_h q1)), (.double (own_l q2))] (.double (0 : UInt64)) := Arv.set Ar9 qc9 S9 M9 Hh9 G9 rfl W10 1 rfl (Nat.le_of_ble_eq_true rfl)
  have sg12 : ∀ target, Steps p.tables e below (T10.setTop (mkF m 35 #[.val (.long q1), .second, .val (.long q2), .second, .val (.int p3), .val (.int p4), .val (.double (own_h q1)), .second, .val (.double (own_l q2)), .second, .val (.ref b2), .unset, .unset] [(.ref b2)])) target → Steps p.tables e below (T10.setTop (mkF m 33 #[.val (.long q1), .second, .val (.long q2), .second, .val (.int p3), .val (.int p4), .val (.double (own_h q1)), .second, .val (.double (own_l q2)), .second, .val (.ref b2), .unset, .unset] [])) target := by
    intro target kt
    show Steps p.tables e below (T10.setTop (mkF m 33 #[.val (.long q1), .second, .val (.long q2), .second, .val (.int p3), .val (.int p4), .val (.double (own_h q1)), .second, .val (.double (own_l q2)), .second, .val (.ref b2), .unset, .unset] [])) _
    refine XS.aload X10.here hx rfl (hb hby at_33) rfl rfl ?_
    exact kt
  obtain ⟨_, _, ⟨T13, L13, k13, n13⟩, -, X13, ⟨Lc13, hQ13, l13, y13, z13⟩, st13⟩ := Jvm.LawKit.callS X10 hx (y := (⟨"com/example/mensura/mensura/DoubleDouble", "of", "([D)Lcom/example/mensura/mensura/DoubleDouble;"⟩ : MethodName)) hown (mvT hZ (hw _ (List.mem_of_getElem? (i := 3) rfl))) (mvT hZ (hw _ (List.mem_of_getElem? (i := 4) rfl))) (mvT hZ (hw _ (List.mem_of_getElem? (i := 5) rfl))) (mvT hZ (hw _ (List.mem_of_getElem? (i := 6) rfl))) (by decide) (backOf (W := 0) (rm1 l Z a0 hw [] b2 k2 (own_h q1) (own_l q2) h10 n0 Zs10 f11) hZ (hw _ (List.mem_of_getElem? (i := 6) rfl)) (hw _ (List.mem_of_getElem? (i := 5) rfl)) (by decide) (by decide)) (g := (mkF m 35 #[.val (.long q1), .second, .val (.long q2), .second, .val (.int p3), .val (.int p4), .val (.double (own_h q1)), .second, .val (.double (own_l q2)), .second, .val (.ref b2), .unset, .unset] [(.ref b2)])) rfl (by rw [hml]; rfl) (argsL := [(.ref b2)]) (rest := []) (lenOf pd_4 rfl) rfl (by show 2 * 0 + _ ≤ _; exact Nat.le_of_eq rfl) (hb hby at_35) (fun _ _ => ⟨rfl, e10, (by decide : 1 + 1 ≤ _), (by decide : 2 + 2 ≤ _)⟩)
  dsimp only [Pt.U, Pt.locs, Pt.cells, Pt.slots] at X13 l13 y13 z13 st13 hQ13
  subst l13 y13 z13
  obtain ⟨b_13, rfl, N13q, c13_0, c13_1, c13_2, c13_3, c13_4, c13_5⟩ := hQ13
  have N13 := Fr.app N10 N13q
  have Zs13 : n0 ≤ T13.heap.size := Nat.le_trans Zs10 c13_2.1
  have ne_b2_b_13 : b2 ≠ b_13 := Nat.ne_of_lt (Nat.lt_of_lt_of_le f11.lt c13_0)
  have f14 : Arv Z T13.heap b2 k2 .double (2 : Int32) [(.double (own_h q1)), (.double (own_l q2))] (.double (0 : UInt64)) := f11.keep c13_2 nin0
  have f15 : Exa Z T13.heap b_13 "com/example/mensura/mensura/DoubleDouble" := c13_3
  have f16 : Fld Z T13.heap b_13 "com/example/mensura/mensura/DoubleDouble" "high" "D" (.double (own_h q1)) := c13_4
  have f17 : Fld Z T13.heap b_13 "com/example/mensura/mensura/DoubleDouble" "low" "D" (.double (own_l q2)) := c13_5
  have sg18 : ∀ target, Steps p.tables e below (T13.setTop (mkF m 42 #[.val (.long q1), .second, .val (.long q2), .second, .val (.int p3), .val (.int p4), .val (.double (own_h q1)), .second, .val (.double (own_l q2)), .second, .val (.ref b2), .val (.ref b_13), .unset] [(.ref b_13)])) target → Steps p.tables e below (T13.setTop (mkF m 38 #[.val (.long q1), .second, .val (.long q2), .second, .val (.int p3), .val (.int p4), .val (.double (own_h q1)), .second, .val (.double (own_l q2)), .second, .val (.ref b2), .unset, .unset] [(.ref b_13)])) target := by
    intro target kt
    show Steps p.tables e below (T13.setTop (mkF m 38 #[.val (.long q1), .second, .val (.long q2), .second, .val (.int p3), .val (.int p4), .val (.double (own_h q1)), .second, .val (.double (own_l q2)), .second, .val (.ref b2), .unset, .unset] [(.ref b_13)])) _
    refine XS.astore X13.here hx rfl (hb hby at_38) rfl rfl (l' := #[.val (.long q1), .second, .val (.long q2), .second, .val (.int p3), .val (.int p4), .val (.double (own_h q1)), .second, .val (.double (own_l q2)), .second, .val (.ref b2), .val (.ref b_13), .unset]) rfl ?_
    show Steps p.tables e below (T13.setTop (mkF m 40 #[.val (.long q1), .second, .val (.long q2), .second, .val (.int p3), .val (.int p4), .val (.double (own_h q1)), .second, .val (.double (own_l q2)), .second, .val (.ref b2), .val (.ref b_13), .unset] [])) _
    refine XS.aload X13.here hx rfl (hb hby at_40) rfl rfl ?_
    exact kt
  obtain ⟨cq19, kq19, q19a, q19b, q19c⟩ := isOf hZ rfl f15
  obtain ⟨_, _, ⟨T19, L19, k19, n19⟩, -, X19, ⟨Lc19, hQ19, l19, y19, z19⟩, st19⟩ := X13.virtualBack hx (y := (⟨"com/example/mensura/mensura/DoubleDouble", "high", "()D"⟩ : MethodName)) (z := (⟨"com/example/mensura/mensura/DoubleDouble", "high", "()D"⟩ : MethodName)) hown (mvT hZ (hw _ (List.mem_of_getElem? (i := 19) rfl))) (mvT hZ (hw _ (List.mem_of_getElem? (i := 20) rfl))) (notFace_of_selects (args := #[]) (mvT hZ (hw _ (List.mem_of_getElem? (i := 22) rfl)))) (mvT hZ (hw _ (List.mem_of_getElem? (i := 22) rfl))) (mvT hZ (hw _ (List.mem_of_getElem? (i := 21) rfl))) (by decide) (backOf (W := 0) (rm4 l Z a0 hw [] b_13 (own_h q1) T13.heap n0 Zs13 f16) hZ (hw _ (List.mem_of_getElem? (i := 23) rfl)) (hw _ (List.mem_of_getElem? (i := 5) rfl)) (by decide) (by decide)) q19a q19c (g := (mkF m 42 #[.val (.long q1), .second, .val (.long q2), .second, .val (.int p3), .val (.int p4), .val (.double (own_h q1)), .second, .val (.double (own_l q2)), .second, .val (.ref b2), .val (.ref b_13), .unset] [(.ref b_13)])) rfl (by rw [hml]; rfl) (Steps.refl _) (argsL := []) (rest := []) (lenOf pd_1 rfl) rfl (by show 2 * 0 + _ ≤ _; exact Nat.le_of_eq rfl) (hb hby at_42) (fun _ _ => ⟨rfl, rfl, (by decide : 2 + 0 ≤ _), (by decide : 4 + 0 ≤ _)⟩)
  dsimp only [Pt.U, Pt.locs, Pt.cells, Pt.slots] at X19 l19 y19 z19 st19 hQ19
  subst l19 y19 z19
  obtain ⟨rfl, N19q, c19_0⟩ := hQ19
  have N19 := Fr.app N13 N19q
  have sg20 : ∀ target, Steps p.tables e below (T19.setTop (mkF m 53 #[.val (.long q1), .second, .val (.long q2), .second, .val (.int p3), .val (.int p4), .val (.double (own_h q1)), .second, .val (.double (own_l q2)), .second, .val (.ref b2), .val (.ref b_13), .unset] [(.ref b_13)])) target → Steps p.tables e below (T19.setTop (mkF m 45 #[.val (.long q1), .second, .val (.long q2), .second, .val (.int p3), .val (.int p4), .val (.double (own_h q1)), .second, .val (.double (own_l q2)), .second, .val (.ref b2), .val (.ref b_13), .unset] [(.double (own_h q1))])) target := by
    intro target kt
    show Steps p.tables e below (T19.setTop (mkF m 45 #[.val (.long q1), .second, .val (.long q2), .second, .val (.int p3), .val (.int p4), .val (.double (own_h q1)), .second, .val (.double (own_l q2)), .second, .val (.ref b2), .val (.ref b_13), .unset] [(.double (own_h q1))])) _
    refine XS.dload X19.here hx rfl (hb hby at_45) rfl ?_
    show Steps p.tables e below (T19.setTop (mkF m 47 #[.val (.long q1), .second, .val (.long q2), .second, .val (.int p3), .val (.int p4), .val (.double (own_h q1)), .second, .val (.double (own_l q2)), .second, .val (.ref b2), .val (.ref b_13), .unset] [(.double (own_h q1)), (.double (own_h q1))])) _
    refine XS.dcmpS X19.here hx rfl (v := (0 : Int32)) (hb hby at_47) rfl (dcmpV_self (own_h_nn q1) .l) ?_
    show Steps p.tables e below (T19.setTop (mkF m 48 #[.val (.long q1), .second, .val (.long q2), .second, .val (.int p3), .val (.int p4), .val (.double (own_h q1)), .second, .val (.double (own_l q2)), .second, .val (.ref b2), .val (.ref b_13), .unset] [(.int (0 : Int32))])) _
    refine XS.ifNo X19.here hx rfl (hb hby at_48) rfl ((if0 _ _).trans (teq (by decide : (0 : Int32) = (0 : Int32))).2) ?_
    show Steps p.tables e below (T19.setTop (mkF m 51 #[.val (.long q1), .second, .val (.long q2), .second, .val (.int p3), .val (.int p4), .val (.double (own_h q1)), .second, .val (.double (own_l q2)), .second, .val (.ref b2), .val (.ref b_13), .unset] [])) _
    refine XS.aload X19.here hx rfl (hb hby at_51) rfl rfl ?_
    exact kt
  obtain ⟨cq21, kq21, q21a, q21b, q21c⟩ := isOf hZ c19_0 f15
  obtain ⟨_, _, ⟨T21, L21, k21, n21⟩, -, X21, ⟨Lc21, hQ21, l21, y21, z21⟩, st21⟩ := X19.virtualBack hx (y := (⟨"com/example/mensura/mensura/DoubleDouble", "low", "()D"⟩ : MethodName)) (z := (⟨"com/example/mensura/mensura/DoubleDouble", "low", "()D"⟩ : MethodName)) hown (mvT hZ (hw _ (List.mem_of_getElem? (i := 24) rfl))) (mvT hZ (hw _ (List.mem_of_getElem? (i := 25) rfl))) (notFace_of_selects (args := #[]) (mvT hZ (hw _ (List.mem_of_getElem? (i := 27) rfl)))) (mvT hZ (hw _ (List.mem_of_getElem? (i := 27) rfl))) (mvT hZ (hw _ (List.mem_of_getElem? (i := 26) rfl))) (by decide) (backOf (W := 0) (rm5 l Z a0 hw [] b_13 (own_l q2) T13.heap n0 Zs13 f17) hZ (hw _ (List.mem_of_getElem? (i := 28) rfl)) (hw _ (List.mem_of_getElem? (i := 5) rfl)) (by decide) (by decide)) q21a q21c (g := (mkF m 53 #[.val (.long q1), .second, .val (.long q2), .second, .val (.int p3), .val (.int p4), .val (.double (own_h q1)), .second, .val (.double (own_l q2)), .second, .val (.ref b2), .val (.ref b_13), .unset] [(.ref b_13)])) rfl (by rw [hml]; rfl) (Steps.refl _) (argsL := []) (rest := []) (lenOf pd_1 rfl) rfl (by show 2 * 0 + _ ≤ _; exact Nat.le_of_eq rfl) (hb hby at_53) (fun _ _ => ⟨rfl, c19_0, (by decide : 2 + 0 ≤ _), (by decide : 4 + 0 ≤ _)⟩)
  dsimp only [Pt.U, Pt.locs, Pt.cells, Pt.slots] at X21 l21 y21 z21 st21 hQ21
  subst l21 y21 z21
  obtain ⟨rfl, N21q, c21_0⟩ := hQ21
  have N21 := Fr.app N19 N21q
  have sg22 : ∀ target, Steps p.tables e below (T21.setTop (mkF m 75 #[.val (.long q1), .second, .val (.long q2), .second, .val (.int p3), .val (.int p4), .val (.double (own_h q1)), .second, .val (.double (own_l q2)), .second, .val (.ref b2), .val (.ref b_13), .val (.int (1 : Int32))] [(.double (FP.i2d p3)), (.int (0 : Int32)), (.ref b2)])) target → Steps p.tables e below (T21.setTop (mkF m 56 #[.val (.long q1), .second, .val (.long q2), .second, .val (.int p3), .val (.int p4), .val (.double (own_h q1)), .second, .val (.double (own_l q2)), .second, .val (.ref b2), .val (.ref b_13), .unset] [(.double (own_l q2))])) target := by
    intro target kt
    show Steps p.tables e below (T21.setTop (mkF m 56 #[.val (.long q1), .second, .val (.long q2), .second, .val (.int p3), .val (.int p4), .val (.double (own_h q1)), .second, .val (.double (own_l q2)), .second, .val (.ref b2), .val (.ref b_13), .unset] [(.double (own_l q2))])) _
    refine XS.dload X21.here hx rfl (hb hby at_56) rfl ?_
    show Steps p.tables e below (T21.setTop (mkF m 58 #[.val (.long q1), .second, .val (.long q2), .second, .val (.int p3), .val (.int p4), .val (.double (own_h q1)), .second, .val (.double (own_l q2)), .second, .val (.ref b2), .val (.ref b_13), .unset] [(.double (own_l q2)), (.double (own_l q2))])) _
    refine XS.dcmpS X21.here hx rfl (v := (0 : Int32)) (hb hby at_58) rfl (dcmpV_self (own_l_nn q2) .l) ?_
    show Steps p.tables e below (T21.setTop (mkF m 59 #[.val (.long q1), .second, .val (.long q2), .second, .val (.int p3), .val (.int p4), .val (.double (own_h q1)), .second, .val (.double (own_l q2)), .second, .val (.ref b2), .val (.ref b_13), .unset] [(.int (0 : Int32))])) _
    refine XS.ifNo X21.here hx rfl (hb hby at_59) rfl ((if0 _ _).trans (teq (by decide : (0 : Int32) = (0 : Int32))).2) ?_
    show Steps p.tables e below (T21.setTop (mkF m 62 #[.val (.long q1), .second, .val (.long q2), .second, .val (.int p3), .val (.int p4), .val (.double (own_h q1)), .second, .val (.double (own_l q2)), .second, .val (.ref b2), .val (.ref b_13), .unset] [])) _
    refine XS.iconst X21.here hx rfl (hb hby at_62) ?_
    show Steps p.tables e below (T21.setTop (mkF m 63 #[.val (.long q1), .second, .val (.long q2), .second, .val (.int p3), .val (.int p4), .val (.double (own_h q1)), .second, .val (.double (own_l q2)), .second, .val (.ref b2), .val (.ref b_13), .unset] [(.int (1 : Int32))])) _
    refine XS.goto X21.here hx rfl (pc0 := 63) (pc' := 67) rfl (hb hby at_63) (by decide) (by decide) ?_
    show Steps p.tables e below (T21.setTop (mkF m 67 #[.val (.long q1), .second, .val (.long q2), .second, .val (.int p3), .val (.int p4), .val (.double (own_h q1)), .second, .val (.double (own_l q2)), .second, .val (.ref b2), .val (.ref b_13), .unset] [(.int (1 : Int32))])) _
    refine XS.istore X21.here hx rfl (hb hby at_67) rfl (l' := #[.val (.long q1), .second, .val (.long q2), .second, .val (.int p3), .val (.int p4), .val (.double (own_h q1)), .second, .val (.double (own_l q2)), .second, .val (.ref b2), .val (.ref b_13), .val (.int (1 : Int32))]) rfl ?_
    show Steps p.tables e below (T21.setTop (mkF m 69 #[.val (.long q1), .second, .val (.long q2), .second, .val (.int p3), .val (.int p4), .val (.double (own_h q1)), .second, .val (.double (own_l q2)), .second, .val (.ref b2), .val (.ref b_13), .val (.int (1 : Int32))] [])) _
    refine XS.aload X21.here hx rfl (hb hby at_69) rfl rfl ?_
    show Steps p.tables e below (T21.setTop (mkF m 71 #[.val (.long q1), .second, .val (.long q2), .second, .val (.int p3), .val (.int p4), .val (.double (own_h q1)), .second, .val (.double (own_l q2)), .second, .val (.ref b2), .val (.ref b_13), .val (.int (1 : Int32))] [(.ref b2)])) _
    refine XS.iconst X21.here hx rfl (hb hby at_71) ?_
    show Steps p.tables e below (T21.setTop (mkF m 72 #[.val (.long q1), .second, .val (.long q2), .second, .val (.int p3), .val (.int p4), .val (.double (own_h q1)), .second, .val (.double (own_l q2)), .second, .val (.ref b2), .val (.ref b_13), .val (.int (1 : Int32))] [(.int (0 : Int32)), (.ref b2)])) _
    refine XS.iload X21.here hx rfl (hb hby at_72) rfl ?_
    show Steps p.tables e below (T21.setTop (mkF m 74 #[.val (.long q1), .second, .val (.long q2), .second, .val (.int p3), .val (.int p4), .val (.double (own_h q1)), .second, .val (.double (own_l q2)), .second, .val (.ref b2), .val (.ref b_13), .val (.int (1 : Int32))] [(.int p3), (.int (0 : Int32)), (.ref b2)])) _
    refine XS.i2dS X21.here hx rfl (v := (FP.i2d p3)) (hb hby at_74) rfl rfl ?_
    exact kt
  obtain ⟨cl23, Ar23, qc23, S23, M23, Hh23, G23⟩ := id f14
  have hin23 : ¬ ((0 : Int32) < 0 ∨ cl23.slots.size ≤ ((0 : Int32)).toNatClampNeg) := inb_of S23 ⟨by decide, by decide⟩
  obtain ⟨T24, h24, X24, e24, W24, st24⟩ := stD X21 hx hZ c21_0 Ar23 (j := (0 : Int32)) hin23 (g := (mkF m 75 #[.val (.long q1), .second, .val (.long q2), .second, .val (.int p3), .val (.int p4), .val (.double (own_h q1)), .second, .val (.double (own_l q2)), .second, .val (.ref b2), .val (.ref b_13), .val (.int (1 : Int32))] [(.double (FP.i2d p3)), (.int (0 : Int32)), (.ref b2)])) rfl rfl (hb hby at_75)
  have N24 := Fr.snoc X24 N21 g_b2
  have Zs24 : n0 ≤ h24.size := by rw [W24.size]; exact Zs13
  have f25 : Exa Z h24 b_13 "com/example/mensura/mensura/DoubleDouble" := f15.wr W24
  have f26 : Fld Z h24 b_13 "com/example/mensura/mensura/DoubleDouble" "high" "D" (.double (own_h q1)) := f16.other W24 (Or.inl (Ne.symm ne_b2_b_13))
  have f27 : Fld Z h24 b_13 "com/example/mensura/mensura/DoubleDouble" "low" "D" (.double (own_l q2)) := f17.other W24 (Or.inl (Ne.symm ne_b2_b_13))
  have f28 : Arv Z h24 b2 k2 .double (2 : Int32) [(.double (FP.i2d p3)), (.double (own_l q2))] (.double (0 : UInt64)) := Arv.set Ar23 qc23 S23 M23 Hh23 G23 rfl W24 0 rfl (Nat.le_of_ble_eq_true rfl)
  have sg29 : ∀ target, Steps p.tables e below (T24.setTop (mkF m 82 #[.val (.long q1), .second, .val (.long q2), .second, .val (.int p3), .val (.int p4), .val (.double (own_h q1)), .second, .val (.double (own_l q2)), .second, .val (.ref b2), .val (.ref b_13), .val (.int (1 : Int32))] [(.double (FP.i2d p4)), (.int (1 : Int32)), (.ref b2)])) target → Steps p.tables e below (T24.setTop (mkF m 76 #[.val (.long q1), .second, .val (.long q2), .second, .val (.int p3), .val (.int p4), .val (.double (own_h q1)), .second, .val (.double (own_l q2)), .second, .val (.ref b2), .val (.ref b_13), .val (.int (1 : Int32))] [])) target := by
    intro target kt
    show Steps p.tables e below (T24.setTop (mkF m 76 #[.val (.long q1), .second, .val (.long q2), .second, .val (.int p3), .val (.int p4), .val (.double (own_h q1)), .second, .val (.double (own_l q2)), .second, .val (.ref b2), .val (.ref b_13), .val (.int (1 : Int32))] [])) _
    refine XS.aload X24.here hx rfl (hb hby at_76) rfl rfl ?_
    show Steps p.tables e below (T24.setTop (mkF m 78 #[.val (.long q1), .second, .val (.long q2), .second, .val (.int p3), .val (.int p4), .val (.double (own_h q1)), .second, .val (.double (own_l q2)), .second, .val (.ref b2), .val (.ref b_13), .val (.int (1 : Int32))] [(.ref b2)])) _
    refine XS.iconst X24.here hx rfl (hb hby at_78) ?_
    show Steps p.tables e below (T24.setTop (mkF m 79 #[.val (.long q1), .second, .val (.long q2), .second, .val (.int p3), .val (.int p4), .val (.double (own_h q1)), .second, .val (.double (own_l q2)), .second, .val (.ref b2), .val (.ref b_13), .val (.int (1 : Int32))] [(.int (1 : Int32)), (.ref b2)])) _
    refine XS.iload X24.here hx rfl (hb hby at_79) rfl ?_
    show Steps p.tables e below (T24.setTop (mkF m 81 #[.val (.long q1), .second, .val (.long q2), .second, .val (.int p3), .val (.int p4), .val (.double (own_h q1)), .second, .val (.double (own_l q2)), .second, .val (.ref b2), .val (.ref b_13), .val (.int (1 : Int32))] [(.int p4), (.int (1 : Int32)), (.ref b2)])) _
    refine XS.i2dS X24.here hx rfl (v := (FP.i2d p4)) (hb hby at_81) rfl rfl ?_
    exact kt
  obtain ⟨cl30, Ar30, qc30, S30, M30, Hh30, G30⟩ := id f28
  have hin30 : ¬ ((1 : Int32) < 0 ∨ cl30.slots.size ≤ ((1 : Int32)).toNatClampNeg) := inb_of S30 ⟨by decide, by decide⟩
  obtain ⟨T31, h31, X31, e31, W31, st31⟩ := stD X24 hx hZ e24 Ar30 (j := (1 : Int32)) hin30 (g := (mkF m 82 #[.val (.long q1), .second, .val (.long q2), .second, .val (.int p3), .val (.int p4), .val (.double (own_h q1)), .second, .val (.double (own_l q2)), .second, .val (.ref b2), .val (.ref b_13), .val (.int (1 : Int32))] [(.double (FP.i2d p4)), (.int (1 : Int32)), (.ref b2)])) rfl rfl (hb hby at_82)
  have N31 := Fr.snoc X31 N24 g_b2
  have Zs31 : n0 ≤ h31.size := by rw [W31.size]; exact Zs24
  have f32 : Exa Z h31 b_13 "com/example/mensura/mensura/DoubleDouble" := f25.wr W31
  have f33 : Fld Z h31 b_13 "com/example/mensura/mensura/DoubleDouble" "high" "D" (.double (own_h q1)) := f26.other W31 (Or.inl (Ne.symm ne_b2_b_13))
  have f34 : Fld Z h31 b_13 "com/example/mensura/mensura/DoubleDouble" "low" "D" (.double (own_l q2)) := f27.other W31 (Or.inl (Ne.symm ne_b2_b_13))
  have f35 : Arv Z h31 b2 k2 .double (2 : Int32) [(.double (FP.i2d p3)), (.double (FP.i2d p4))] (.double (0 : UInt64)) := Arv.set Ar30 qc30 S30 M30 Hh30 G30 rfl W31 1 rfl (Nat.le_of_ble_eq_true rfl)
  have sg36 : ∀ target, Steps p.tables e below (T31.setTop (mkF m 90 #[.val (.long q1), .second, .val (.long q2), .second, .val (.int p3), .val (.int p4), .val (.double (own_h q1)), .second, .val (.double (own_l q2)), .second, .val (.ref b2), .val (.ref b_13), .val (.int (1 : Int32))] [(.ref b_13)])) target → Steps p.tables e below (T31.setTop (mkF m 83 #[.val (.long q1), .second, .val (.long q2), .second, .val (.int p3), .val (.int p4), .val (.double (own_h q1)), .second, .val (.double (own_l q2)), .second, .val (.ref b2), .val (.ref b_13), .val (.int (1 : Int32))] [])) target := by
    intro target kt
    show Steps p.tables e below (T31.setTop (mkF m 83 #[.val (.long q1), .second, .val (.long q2), .second, .val (.int p3), .val (.int p4), .val (.double (own_h q1)), .second, .val (.double (own_l q2)), .second, .val (.ref b2), .val (.ref b_13), .val (.int (1 : Int32))] [])) _
    refine XS.iload X31.here hx rfl (hb hby at_83) rfl ?_
    show Steps p.tables e below (T31.setTop (mkF m 85 #[.val (.long q1), .second, .val (.long q2), .second, .val (.int p3), .val (.int p4), .val (.double (own_h q1)), .second, .val (.double (own_l q2)), .second, .val (.ref b2), .val (.ref b_13), .val (.int (1 : Int32))] [(.int (1 : Int32))])) _
    refine XS.ifNo X31.here hx rfl (hb hby at_85) rfl ((if0 _ _).trans (feq (by decide : ¬ ((1 : Int32) = (0 : Int32)))).1) ?_
    show Steps p.tables e below (T31.setTop (mkF m 88 #[.val (.long q1), .second, .val (.long q2), .second, .val (.int p3), .val (.int p4), .val (.double (own_h q1)), .second, .val (.double (own_l q2)), .second, .val (.ref b2), .val (.ref b_13), .val (.int (1 : Int32))] [])) _
    refine XS.aload X31.here hx rfl (hb hby at_88) rfl rfl ?_
    exact kt
  obtain ⟨cq37, kq37, q37a, q37b, q37c⟩ := isOf hZ e31 f32
  obtain ⟨_, _, ⟨T37, L37, k37, n37⟩, -, X37, ⟨Lc37, hQ37, l37, y37, z37⟩, st37⟩ := X31.virtualBack hx (y := (⟨"com/example/mensura/mensura/DoubleDouble", "high", "()D"⟩ : MethodName)) (z := (⟨"com/example/mensura/mensura/DoubleDouble", "high", "()D"⟩ : MethodName)) hown (mvT hZ (hw _ (List.mem_of_getElem? (i := 19) rfl))) (mvT hZ (hw _ (List.mem_of_getElem? (i := 20) rfl))) (notFace_of_selects (args := #[]) (mvT hZ (hw _ (List.mem_of_getElem? (i := 22) rfl)))) (mvT hZ (hw _ (List.mem_of_getElem? (i := 22) rfl))) (mvT hZ (hw _ (List.mem_of_getElem? (i := 21) rfl))) (by decide) (backOf (W := 0) (rm4 l Z a0 hw [] b_13 (own_h q1) h31 n0 Zs31 f33) hZ (hw _ (List.mem_of_getElem? (i := 23) rfl)) (hw _ (List.mem_of_getElem? (i := 5) rfl)) (by decide) (by decide)) q37a q37c (g := (mkF m 90 #[.val (.long q1), .second, .val (.long q2), .second, .val (.int p3), .val (.int p4), .val (.double (own_h q1)), .second, .val (.double (own_l q2)), .second, .val (.ref b2), .val (.ref b_13), .val (.int (1 : Int32))] [(.ref b_13)])) rfl (by rw [hml]; rfl) (Steps.refl _) (argsL := []) (rest := []) (lenOf pd_1 rfl) rfl (by show 2 * 0 + _ ≤ _; exact Nat.le_of_eq rfl) (hb hby at_90) (fun _ _ => ⟨rfl, e31, (by decide : 2 + 0 ≤ _), (by decide : 4 + 0 ≤ _)⟩)
  dsimp only [Pt.U, Pt.locs, Pt.cells, Pt.slots] at X37 l37 y37 z37 st37 hQ37
  subst l37 y37 z37
  obtain ⟨rfl, N37q, c37_0⟩ := hQ37
  have N37 := Fr.app N31 N37q
  have sg38 : ∀ target, Steps p.tables e below (T37.setTop (mkF m 101 #[.val (.long q1), .second, .val (.long q2), .second, .val (.int p3), .val (.int p4), .val (.double (own_h q1)), .second, .val (.double (own_l q2)), .second, .val (.ref b2), .val (.ref b_13), .val (.int (1 : Int32))] [(.ref b_13)])) target → Steps p.tables e below (T37.setTop (mkF m 93 #[.val (.long q1), .second, .val (.long q2), .second, .val (.int p3), .val (.int p4), .val (.double (own_h q1)), .second, .val (.double (own_l q2)), .second, .val (.ref b2), .val (.ref b_13), .val (.int (1 : Int32))] [(.double (own_h q1))])) target := by
    intro target kt
    show Steps p.tables e below (T37.setTop (mkF m 93 #[.val (.long q1), .second, .val (.long q2), .second, .val (.int p3), .val (.int p4), .val (.double (own_h q1)), .second, .val (.double (own_l q2)), .second, .val (.ref b2), .val (.ref b_13), .val (.int (1 : Int32))] [(.double (own_h q1))])) _
    refine XS.dload X37.here hx rfl (hb hby at_93) rfl ?_
    show Steps p.tables e below (T37.setTop (mkF m 95 #[.val (.long q1), .second, .val (.long q2), .second, .val (.int p3), .val (.int p4), .val (.double (own_h q1)), .second, .val (.double (own_l q2)), .second, .val (.ref b2), .val (.ref b_13), .val (.int (1 : Int32))] [(.double (own_h q1)), (.double (own_h q1))])) _
    refine XS.dcmpS X37.here hx rfl (v := (0 : Int32)) (hb hby at_95) rfl (dcmpV_self (own_h_nn q1) .l) ?_
    show Steps p.tables e below (T37.setTop (mkF m 96 #[.val (.long q1), .second, .val (.long q2), .second, .val (.int p3), .val (.int p4), .val (.double (own_h q1)), .second, .val (.double (own_l q2)), .second, .val (.ref b2), .val (.ref b_13), .val (.int (1 : Int32))] [(.int (0 : Int32))])) _
    refine XS.ifNo X37.here hx rfl (hb hby at_96) rfl ((if0 _ _).trans (teq (by decide : (0 : Int32) = (0 : Int32))).2) ?_
    show Steps p.tables e below (T37.setTop (mkF m 99 #[.val (.long q1), .second, .val (.long q2), .second, .val (.int p3), .val (.int p4), .val (.double (own_h q1)), .second, .val (.double (own_l q2)), .second, .val (.ref b2), .val (.ref b_13), .val (.int (1 : Int32))] [])) _
    refine XS.aload X37.here hx rfl (hb hby at_99) rfl rfl ?_
    exact kt
  obtain ⟨cq39, kq39, q39a, q39b, q39c⟩ := isOf hZ c37_0 f32
  obtain ⟨_, _, ⟨T39, L39, k39, n39⟩, -, X39, ⟨Lc39, hQ39, l39, y39, z39⟩, st39⟩ := X37.virtualBack hx (y := (⟨"com/example/mensura/mensura/DoubleDouble", "low", "()D"⟩ : MethodName)) (z := (⟨"com/example/mensura/mensura/DoubleDouble", "low", "()D"⟩ : MethodName)) hown (mvT hZ (hw _ (List.mem_of_getElem? (i := 24) rfl))) (mvT hZ (hw _ (List.mem_of_getElem? (i := 25) rfl))) (notFace_of_selects (args := #[]) (mvT hZ (hw _ (List.mem_of_getElem? (i := 27) rfl)))) (mvT hZ (hw _ (List.mem_of_getElem? (i := 27) rfl))) (mvT hZ (hw _ (List.mem_of_getElem? (i := 26) rfl))) (by decide) (backOf (W := 0) (rm5 l Z a0 hw [] b_13 (own_l q2) h31 n0 Zs31 f34) hZ (hw _ (List.mem_of_getElem? (i := 28) rfl)) (hw _ (List.mem_of_getElem? (i := 5) rfl)) (by decide) (by decide)) q39a q39c (g := (mkF m 101 #[.val (.long q1), .second, .val (.long q2), .second, .val (.int p3), .val (.int p4), .val (.double (own_h q1)), .second, .val (.double (own_l q2)), .second, .val (.ref b2), .val (.ref b_13), .val (.int (1 : Int32))] [(.ref b_13)])) rfl (by rw [hml]; rfl) (Steps.refl _) (argsL := []) (rest := []) (lenOf pd_1 rfl) rfl (by show 2 * 0 + _ ≤ _; exact Nat.le_of_eq rfl) (hb hby at_101) (fun _ _ => ⟨rfl, c37_0, (by decide : 2 + 0 ≤ _), (by decide : 4 + 0 ≤ _)⟩)
  dsimp only [Pt.U, Pt.locs, Pt.cells, Pt.slots] at X39 l39 y39 z39 st39 hQ39
  subst l39 y39 z39
  obtain ⟨rfl, N39q, c39_0⟩ := hQ39
  have N39 := Fr.app N37 N39q
  have sg40 : ∀ target, Steps p.tables e below (T39.setTop (mkF m 115 #[.val (.long q1), .second, .val (.long q2), .second, .val (.int p3), .val (.int p4), .val (.double (own_h q1)), .second, .val (.double (own_l q2)), .second, .val (.ref b2), .val (.ref b_13), .val (.int (1 : Int32))] [(.int (1 : Int32))])) target → Steps p.tables e below (T39.setTop (mkF m 104 #[.val (.long q1), .second, .val (.long q2), .second, .val (.int p3), .val (.int p4), .val (.double (own_h q1)), .second, .val (.double (own_l q2)), .second, .val (.ref b2), .val (.ref b_13), .val (.int (1 : Int32))] [(.double (own_l q2))])) target := by
    intro target kt
    show Steps p.tables e below (T39.setTop (mkF m 104 #[.val (.long q1), .second, .val (.long q2), .second, .val (.int p3), .val (.int p4), .val (.double (own_h q1)), .second, .val (.double (own_l q2)), .second, .val (.ref b2), .val (.ref b_13), .val (.int (1 : Int32))] [(.double (own_l q2))])) _
    refine XS.dload X39.here hx rfl (hb hby at_104) rfl ?_
    show Steps p.tables e below (T39.setTop (mkF m 106 #[.val (.long q1), .second, .val (.long q2), .second, .val (.int p3), .val (.int p4), .val (.double (own_h q1)), .second, .val (.double (own_l q2)), .second, .val (.ref b2), .val (.ref b_13), .val (.int (1 : Int32))] [(.double (own_l q2)), (.double (own_l q2))])) _
    refine XS.dcmpS X39.here hx rfl (v := (0 : Int32)) (hb hby at_106) rfl (dcmpV_self (own_l_nn q2) .l) ?_
    show Steps p.tables e below (T39.setTop (mkF m 107 #[.val (.long q1), .second, .val (.long q2), .second, .val (.int p3), .val (.int p4), .val (.double (own_h q1)), .second, .val (.double (own_l q2)), .second, .val (.ref b2), .val (.ref b_13), .val (.int (1 : Int32))] [(.int (0 : Int32))])) _
    refine XS.ifNo X39.here hx rfl (hb hby at_107) rfl ((if0 _ _).trans (teq (by decide : (0 : Int32) = (0 : Int32))).2) ?_
    show Steps p.tables e below (T39.setTop (mkF m 110 #[.val (.long q1), .second, .val (.long q2), .second, .val (.int p3), .val (.int p4), .val (.double (own_h q1)), .second, .val (.double (own_l q2)), .second, .val (.ref b2), .val (.ref b_13), .val (.int (1 : Int32))] [])) _
    refine XS.iconst X39.here hx rfl (hb hby at_110) ?_
    show Steps p.tables e below (T39.setTop (mkF m 111 #[.val (.long q1), .second, .val (.long q2), .second, .val (.int p3), .val (.int p4), .val (.double (own_h q1)), .second, .val (.double (own_l q2)), .second, .val (.ref b2), .val (.ref b_13), .val (.int (1 : Int32))] [(.int (1 : Int32))])) _
    refine XS.goto X39.here hx rfl (pc0 := 111) (pc' := 115) rfl (hb hby at_111) (by decide) (by decide) ?_
    exact kt
  obtain ⟨fs, hr, hrun, hended, hW, hsame⟩ := X39.leave (v := some (.int (1 : Int32))) (fun h => by rw [Bd.returns] at h; cases h)
  refine ⟨_, _, pre0 _ ?_, hrun, hended, _, _, rfl, ?_, ⟨_, rfl⟩, hW, hsame.mono (by decide) (by decide)⟩
  · show Steps p.tables e below (s₁.setTop (mkF m 0 #[.val (.long q1), .second, .val (.long q2), .second, .val (.int p3), .val (.int p4), .unset, .unset, .unset, .unset, .unset, .unset, .unset] [])) _
    refine sg1 _ ?_
    refine st2 _ ?_
    refine sg4 _ ?_
    refine st6 _ ?_
    refine sg8 _ ?_
    refine st10 _ ?_
    refine sg12 _ ?_
    refine st13 _ ?_
    refine sg18 _ ?_
    refine st19.trans ?_
    refine sg20 _ ?_
    refine st21.trans ?_
    refine sg22 _ ?_
    refine st24 _ ?_
    refine sg29 _ ?_
    refine st31 _ ?_
    refine sg36 _ ?_
    refine st37.trans ?_
    refine sg38 _ ?_
    refine st39.trans ?_
    refine sg40 _ ?_
    show Steps p.tables e below (T39.setTop (mkF m 115 #[.val (.long q1), .second, .val (.long q2), .second, .val (.int p3), .val (.int p4), .val (.double (own_h q1)), .second, .val (.double (own_l q2)), .second, .val (.ref b2), .val (.ref b_13), .val (.int (1 : Int32))] [(.int (1 : Int32))])) _
    exact retN X39 hx (t := .boolean) Bd.returns (by simp) (hb hby at_115) hr
  · show Q_rm0 Z q1 q2 p3 p4 h0 n0 _ T39.heap _
    rw [c39_0]
    exact ⟨rfl, N39⟩
set_option maxRecDepth 65536 in
set_option maxHeartbeats 40000000 in
theorem comes_1 {Post : Tables → Env → Array Value → State → Outcome → State → Prop} (hpost : ∀ tb e args s v u, (limb_1_1.after args s (.returned v) u = true ∧ limb_1_2.after args s (.returned v) u = true ∧ True) → FrameEnd s (.returned v) u (Jvm.fieldLocs frame_1_writes args s ++ Jvm.arrayLocs frame_1_arrays args s ++ Jvm.staticLocs frame_1_statics s) 16 128 → Post tb e args s (.returned v) u) :
    ArmFor flags0 classFile x code maxLocals ret World_1 tables_1 room_1 Calls_1 rest_1 Pre_1 Post := by
  intro l hfl _ _ p e ha hc hk s m args below hf hA hF happ hP
  obtain ⟨hcalls, hrest, hpre⟩ := hP
  obtain ⟨-, -, -, hnamed, -, -, -, hat⟩ := (Spec.applies_iff hf).mp happ
  obtain ⟨hg, hn⟩ := and_e (Cond.before_iff.mp (show (Jvm.Cond.and given_1 narrow_1).before args s = true from hpre))
  obtain ⟨g1, g2⟩ := and_e hg
  obtain ⟨g3, g4⟩ := and_e g2
  obtain ⟨g5, g6⟩ := and_e g4
  obtain ⟨g7, g8⟩ := and_e g6
  obtain ⟨w0, w1, w2, w3, rfl⟩ : ∃ w0 w1 w2 w3 : Value, args = #[w0, w1, w2, w3] := by
    have hs : args.size = 4 := by simpa [Cond.value, given_1] using g1
    obtain ⟨L⟩ := args
    match L, hs with
    | [w0, w1, w2, w3], _ => exact ⟨w0, w1, w2, w3, rfl⟩
  have hw := fun d (hd : d ∈ tables_1) => atoms_spec (ws := Jvm.Cond.code x code maxLocals ret :: tables_1) hat d (List.mem_cons_of_mem _ hd)
  have hfit : Fit s := fun {y c} hc i hi => by
    obtain ⟨ha, rfl⟩ := Array.getElem?_eq_some_iff.mp hc
    have q := List.all_eq_true.mp ((Array.all_eq_true_iff_forall_mem.mp hF) _ (Array.getElem_mem ha)) i (List.mem_range.mpr hi)
    simpa [Array.getElem?_eq_getElem hi] using q
  obtain ⟨i0, ei0⟩ := isL_v g3
  obtain rfl : w0 = (.long i0) := Option.some.inj ei0
  obtain ⟨i1, ei1⟩ := isL_v g5
  obtain rfl : w1 = (.long i1) := Option.some.inj ei1
  obtain ⟨i2, ei2⟩ := is_v g7
  obtain rfl : w2 = (.int i2) := Option.some.inj ei2
  obtain ⟨i3, ei3⟩ := is_v g8
  obtain rfl : w3 = (.int i3) := Option.some.inj ei3
  obtain ⟨n, o, h1, h2, h3, _, L, rfl, ⟨rfl, N⟩, hq⟩ := rm0 l s _ hw tables_1 i0 i1 i2 i3 s.heap s.heap.size (Nat.le_refl _)  p e ha hc hk s m _ below hf ((Spec.applies_iff_loose hf).mp happ).1 ⟨rfl, State.Warmed39.refl s, rfl⟩ trivial
  refine ⟨n, _, h1, h2, h3, hpost _ _ _ _ _ _ ⟨Cond.after_iff.mpr rfl, Cond.after_iff.mpr (eq_i res_at (Term.int_eval (1)) rfl), trivial⟩ ⟨hq.1, hq.2.1, (hq.2.2.sift fun y hy => Or.inr (N y hy)).mono (by decide) (by decide)⟩⟩
theorem main_1_1 : Claimed_1_1 := comes_1 fun _ _ _ _ _ _ h hF => ⟨h.1, hF⟩
theorem main_1_2 : Claimed_1_2 := comes_1 fun _ _ _ _ _ _ h hF => ⟨h.2.1, hF⟩
end Jvm.Pilot.@@N@@
namespace Jvm.Pilot.@@N@@
open Jvm Jvm.ClassFile Sem Op Lib Jvm.Free Jvm.Stand Jvm.Pilot.@@N@@.Jvm.D
/-! MADE BY PROGRAM (witnessworld.py) out of the Statement's table words and the real class files: 11 classes; the members and pool entries that the words name. The judged class is class 1, her method 1. -/
namespace start1
open Jvm.ClassFile
def u (s : String) : CpInfo := .utf8 (stringToUtf16 s)
/-- a pool by its gaps: so many unusable entries, then the entry; so many at the end -/
def gap : Nat → List CpInfo → List CpInfo
  | 0, r => r
  | n + 1, r => .unusable :: gap n r
def poolList (es : List (Nat × CpInfo)) (last : Nat) : List CpInfo := es.foldr (fun e r => gap e.1 (e.2 :: r)) (gap last [])
def pool (es : List (Nat × CpInfo)) (last : Nat) : Array CpInfo := ⟨poolList es last⟩
def fileOf (pool : Array CpInfo) (this : Nat) (attrs : Array Attribute := #[]) (ms : Array MethodInfo := #[]) (fl : Nat := 33) (sup : Nat := 0) (ifs : Array Nat := #[]) (fds : Array FieldInfo := #[]) : ClassFile where
  minorVersion := 0
  majorVersion := 65
  constantPool := pool
  accessFlags := fl
  thisClass := this
  superClass := sup
  interfaces := ifs
  fields := fds
  methods := ms
  attributes := attrs
def plain (name : String) (sup : Option ClassId) : Class where
  name := name
  kind := .ordinary
  loader := none
  accessFlags := 33
  super := sup
  interfaces := #[]
  cf := none
  fields := #[]
  methods := #[]
  instanceTypes := #[]
  staticTypes := #[]
  resolved := #[]
  callSites := []
  init := .initialized
  statics := none
  mirror := none

def pool0 : Array CpInfo := pool [(5, u "<init>"), (0, u "()V"), (1, .class_ 10), (1, u "java/lang/Object")] 113

def k0c0 : Code := { maxStack := 0, maxLocals := 1, code := object_method_1_code, exceptionTable := #[], attributes := #[] }
def k0m0 : Method := { name := "<init>", desc := "()V", sig := { parameters := [], returnType := none }, accessFlags := 1, code := some k0c0 }
/-- java/lang/Object -/
def k0 : Class := { plain "java/lang/Object" none with
  accessFlags := 33
  interfaces := #[]
  cf := some (fileOf pool0 8 #[] #[{ accessFlags := 1, nameIndex := 5, descriptorIndex := 6, attributes := #[] }] 33 0 #[] #[])
  fields := #[]
  methods := #[k0m0]
  instanceTypes := #[]
  staticTypes := #[]
  resolved := Array.replicate 124 none
  statics := none }

def pool1 : Array CpInfo := pool [(2, .class_ 4), (1, u "java/lang/Object"), (0, u "<init>"), (0, u "()V"), (0, .double 4634204016564240384), (1, .double 4697254411347427328), (1, .methodref 12 13), (0, .class_ 14), (0, .nameAndType 15 16), (0, u "com/example/mensura/mensura/DoubleDouble"), (0, u "of"), (0, u "([D)Lcom/example/mensura/mensura/DoubleDouble;"), (0, .methodref 12 18), (0, .nameAndType 19 20), (0, u "high"), (0, u "()D"), (0, .methodref 12 22), (0, .nameAndType 23 20), (0, u "low"), (0, .class_ 25), (0, u "com/example/mensura/mensura/DoubleDoubleOfPinLaw"), (2, u "law"), (0, u "(JJII)Z")] 5

def k1m0 : Method := { name := "<init>", desc := "()V", sig := { parameters := [], returnType := none }, accessFlags := 1, code := none }
def k1c1 : Code := { maxStack := 4, maxLocals := 13, code := code, exceptionTable := #[], attributes := #[] }
def k1m1 : Method := { name := "law", desc := "(JJII)Z", sig := { parameters := [.long, .long, .int, .int], returnType := some .boolean }, accessFlags := 9, code := some k1c1 }
/-- com/example/mensura/mensura/DoubleDoubleOfPinLaw -/
def k1 : Class := { plain "com/example/mensura/mensura/DoubleDoubleOfPinLaw" (some 0) with
  accessFlags := 49
  interfaces := #[]
  cf := some (fileOf pool1 24 #[] #[{ accessFlags := 1, nameIndex := 5, descriptorIndex := 6, attributes := #[] }, { accessFlags := 9, nameIndex := 28, descriptorIndex := 29, attributes := #[] }] 49 2 #[] #[])
  fields := #[]
  methods := #[k1m0, k1m1]
  instanceTypes := #[]
  staticTypes := #[]
  resolved := Array.replicate 35 none
  statics := none }

def pool2 : Array CpInfo := pool [(1, .methodref 2 3), (0, .class_ 4), (0, .nameAndType 5 6), (0, u "java/lang/Object"), (0, u "<init>"), (0, u "()V"), (0, .fieldref 8 9), (0, .class_ 10), (0, .nameAndType 11 12), (0, u "com/example/mensura/mensura/DoubleDouble"), (0, u "high"), (0, u "D"), (0, .fieldref 8 14), (0, .nameAndType 15 12), (0, u "low"), (0, .methodref 8 17), (0, .nameAndType 5 18), (0, u "(DD)V"), (56, u "ONE"), (0, u "Lcom/example/mensura/mensura/DoubleDouble;"), (0, u "OPERATION_ERROR"), (3, u "MIN_FACTOR"), (0, u "MAX_FACTOR"), (0, u "MIN_PRODUCT"), (0, u "MAX_PRODUCT"), (0, u "EXPANSION_ERROR"), (2, u "of"), (0, u "([D)Lcom/example/mensura/mensura/DoubleDouble;"), (7, u "()D")] 4

def k2c0 : Code := { maxStack := 3, maxLocals := 5, code := prog_22_method_1_code, exceptionTable := #[], attributes := #[] }
def k2m0 : Method := { name := "<init>", desc := "(DD)V", sig := { parameters := [.double, .double], returnType := none }, accessFlags := 2, code := some k2c0 }
def k2c1 : Code := { maxStack := 6, maxLocals := 1, code := prog_22_method_2_code, exceptionTable := #[], attributes := #[] }
def k2m1 : Method := { name := "of", desc := "([D)Lcom/example/mensura/mensura/DoubleDouble;", sig := { parameters := [(.array .double)], returnType := some (.object "com/example/mensura/mensura/DoubleDouble") }, accessFlags := 8, code := some k2c1 }
def k2c2 : Code := { maxStack := 2, maxLocals := 1, code := prog_22_method_10_code, exceptionTable := #[], attributes := #[] }
def k2m2 : Method := { name := "high", desc := "()D", sig := { parameters := [], returnType := some .double }, accessFlags := 0, code := some k2c2 }
def k2c3 : Code := { maxStack := 2, maxLocals := 1, code := prog_22_method_11_code, exceptionTable := #[], attributes := #[] }
def k2m3 : Method := { name := "low", desc := "()D", sig := { parameters := [], returnType := some .double }, accessFlags := 0, code := some k2c3 }
/-- com/example/mensura/mensura/DoubleDouble -/
def k2 : Class := { plain "com/example/mensura/mensura/DoubleDouble" (some 0) with
  accessFlags := 48
  interfaces := #[]
  cf := some (fileOf pool2 8 #[] #[{ accessFlags := 2, nameIndex := 5, descriptorIndex := 18, attributes := #[] }, { accessFlags := 8, nameIndex := 88, descriptorIndex := 89, attributes := #[] }, { accessFlags := 0, nameIndex := 11, descriptorIndex := 97, attributes := #[] }, { accessFlags := 0, nameIndex := 15, descriptorIndex := 97, attributes := #[] }] 48 2 #[] #[{ accessFlags := 24, nameIndex := 75, descriptorIndex := 76, attributes := #[] }, { accessFlags := 24, nameIndex := 77, descriptorIndex := 12, attributes := #[] }, { accessFlags := 26, nameIndex := 81, descriptorIndex := 12, attributes := #[] }, { accessFlags := 26, nameIndex := 82, descriptorIndex := 12, attributes := #[] }, { accessFlags := 26, nameIndex := 83, descriptorIndex := 12, attributes := #[] }, { accessFlags := 26, nameIndex := 84, descriptorIndex := 12, attributes := #[] }, { accessFlags := 26, nameIndex := 85, descriptorIndex := 12, attributes := #[] }, { accessFlags := 18, nameIndex := 11, descriptorIndex := 12, attributes := #[] }, { accessFlags := 18, nameIndex := 15, descriptorIndex := 12, attributes := #[] }])
  fields := #[{ name := "ONE", type := (.object "com/example/mensura/mensura/DoubleDouble"), accessFlags := 24, slot := 0, constantValue := 0 }, { name := "OPERATION_ERROR", type := .double, accessFlags := 24, slot := 1, constantValue := 0 }, { name := "MIN_FACTOR", type := .double, accessFlags := 26, slot := 2, constantValue := 0 }, { name := "MAX_FACTOR", type := .double, accessFlags := 26, slot := 3, constantValue := 0 }, { name := "MIN_PRODUCT", type := .double, accessFlags := 26, slot := 4, constantValue := 0 }, { name := "MAX_PRODUCT", type := .double, accessFlags := 26, slot := 5, constantValue := 0 }, { name := "EXPANSION_ERROR", type := .double, accessFlags := 26, slot := 6, constantValue := 0 }, { name := "high", type := .double, accessFlags := 18, slot := 0, constantValue := 0 }, { name := "low", type := .double, accessFlags := 18, slot := 1, constantValue := 0 }]
  methods := #[k2m0, k2m1, k2m2, k2m3]
  instanceTypes := #[.double, .double]
  staticTypes := #[(.object "com/example/mensura/mensura/DoubleDouble"), .double, .double, .double, .double, .double, .double]
  resolved := Array.replicate 102 none
  statics := none }

def pool3 : Array CpInfo := pool [(1, u "java/lang/Cloneable"), (0, .class_ 1), (0, u "java/lang/Object"), (0, .class_ 3)] 3

/-- java/lang/Cloneable -/
def k3 : Class := { plain "java/lang/Cloneable" (some 0) with
  accessFlags := 1537
  interfaces := #[]
  cf := some (fileOf pool3 2 #[] #[] 1537 4 #[] #[])
  fields := #[]
  methods := #[]
  instanceTypes := #[]
  staticTypes := #[]
  resolved := Array.replicate 8 none
  statics := none }

def pool4 : Array CpInfo := pool [(1, u "java/io/Serializable"), (0, .class_ 1), (0, u "java/lang/Object"), (0, .class_ 3)] 3

/-- java/io/Serializable -/
def k4 : Class := { plain "java/io/Serializable" (some 0) with
  accessFlags := 1537
  interfaces := #[]
  cf := some (fileOf pool4 2 #[] #[] 1537 4 #[] #[])
  fields := #[]
  methods := #[]
  instanceTypes := #[]
  staticTypes := #[]
  resolved := Array.replicate 8 none
  statics := none }

/-- the primitive byte -/
def k5 : Class := { plain "byte" none with kind := .primitive 'B', accessFlags := 0x411 }
/-- [B -/
def k6 : Class := { plain "[B" (some 0) with kind := .array 5 .byte, interfaces := #[3, 4], accessFlags := 1041 }

/-- the primitive double -/
def k7 : Class := { plain "double" none with kind := .primitive 'D', accessFlags := 0x411 }
/-- [D -/
def k8 : Class := { plain "[D" (some 0) with kind := .array 7 .double, interfaces := #[3, 4], accessFlags := 1041 }

/-- the primitive int -/
def k9 : Class := { plain "int" none with kind := .primitive 'I', accessFlags := 0x411 }
/-- [I -/
def k10 : Class := { plain "[I" (some 0) with kind := .array 9 .int, interfaces := #[3, 4], accessFlags := 1041 }

def heap : Heap := #[]
def classes : Array Class := #[k0, k1, k2, k3, k4, k5, k6, k7, k8, k9, k10]
def interned : List (Array UInt16 × Addr) := []
def slotsUsed : Nat := 0
def theMethod : MethodId := ⟨1, 1⟩
def args0 : Array Value := #[.long 7, .long 7, .int 5, .int 5]
def aboutOver (below : List Frame) : State where
  vm := { classes := classes, interned := interned.toArray }
  heap := heap
  slotsUsed := slotsUsed
  threads := #[{ frames := .invoking theMethod args0 :: below }]
def below0 : List Frame := [.native { method := ⟨0, 0⟩, args := #[] }]
def about1 : State := aboutOver below0
def p0 : Program := .bare "" "" ""
def e0 : Env := launch0.env 0 0 0
theorem w_frames : about1.frames = Frame.invoking theMethod args0 :: below0 := rfl
set_option maxRecDepth 65536 in
theorem w_args : argsFit about1.vm theMethod args0 = true := by decide +kernel
set_option maxRecDepth 65536 in
theorem w_heap : heapFits about1 = true := by decide +kernel
set_option maxRecDepth 65536 in
theorem w_runnable : about1.curStatus? = some .runnable := by decide +kernel
set_option maxRecDepth 65536 in
theorem w_alone : about1.alone = true := by decide +kernel
set_option maxRecDepth 65536 in
theorem w_named : about1.methodNamed? x = some theMethod := by decide +kernel
set_option maxRecDepth 65536 in
theorem w_hears : about1.hears theMethod below0 = true := by decide +kernel
set_option maxRecDepth 65536 in
theorem w_ripe : about1.ripe theMethod args0 below0 = true := by decide +kernel
theorem w_running : about1.status = .running := rfl
set_option maxRecDepth 65536 in
theorem w_room : about1.hasRoom e0.platform room_1 = true :=
  launch0.hasRoom_least _ room_1 (by decide +kernel) (by decide +kernel) (by decide +kernel) (by decide +kernel) (by decide +kernel) (by decide +kernel)
theorem allAtoms_all (ts : List Jvm.Cond) (a : Array Jvm.Value) (st : Jvm.State) : (allAtoms ts).before a st = ts.all (fun c => c.before a st) := by
  induction ts with
  | nil => rfl
  | cons c t ih =>
    show (Jvm.Cond.and c (allAtoms t)).before a st = _
    rw [Jvm.Cond.before_and, ih, List.all_cons]
def words1 : List Jvm.Cond := Jvm.Cond.code x code maxLocals ret :: tables_1
/-- a 'code' word, met by the world's own term for the bytes: nothing is compared byte by byte -/
theorem code_word {y : MethodName} {bytes : ByteArray} {mx : Nat} {rt : Option FieldType} {a : Array Value} {s : State} {m : MethodId} {meth : Method} {c : Code} (h1 : s.methodNamed? y = some m) (h2 : s.vm.method? m = some meth) (h3 : meth.code = some c) (h4 : c.code = bytes)
    (h5 : (c.maxLocals == mx && c.exceptionTable.isEmpty && decide (c.maxStack ≤ mostOperands) && decide (meth.sig.returnType = rt) && !meth.locks && decide (parseMethodDescriptor y.desc = some meth.sig)) = true) : (Jvm.Cond.code y bytes mx rt).before a s = true := by
  simp only [Bool.and_eq_true, beq_iff_eq, Bool.not_eq_true', decide_eq_true_eq] at h5
  obtain ⟨⟨⟨⟨⟨g1, g2⟩, g3⟩, g4⟩, g5⟩, g6⟩ := h5
  simp [Cond.before, Cond.holds, Cond.value, h1, h2, h3, h4, g1, g2, g3, g4, g5, g6]
def isCode : Jvm.Cond → Bool
  | .code _ _ _ _ => true
  | _ => false
theorem all_split {L : List Jvm.Cond} {P : Jvm.Cond → Bool} (h1 : L.all (fun c => isCode c || P c) = true) (h2 : ∀ c ∈ L.filter isCode, P c = true) : L.all P = true := by
  refine List.all_eq_true.mpr fun c hc => ?_
  have h := List.all_eq_true.mp h1 c hc
  rcases Bool.eq_false_or_eq_true (isCode c) with hi | hi
  · exact h2 c (List.mem_filter.mpr ⟨hc, hi⟩)
  · simpa [hi] using h
set_option maxRecDepth 65536 in
theorem w_c0 : (Jvm.Cond.code x code maxLocals ret).before args0 about1 = true := code_word (m := ⟨1, 1⟩) (meth := k1m1) (c := k1c1) (by decide +kernel) rfl rfl rfl (by decide +kernel)
set_option maxRecDepth 65536 in
theorem w_c1 : (Jvm.Cond.code ({ cls := "com/example/mensura/mensura/DoubleDouble", name := "of", desc := "([D)Lcom/example/mensura/mensura/DoubleDouble;" } : Jvm.MethodName) prog_22_method_2_code (1 : Nat) (Option.some (Jvm.ClassFile.FieldType.object "com/example/mensura/mensura/DoubleDouble"))).before args0 about1 = true := code_word (m := ⟨2, 1⟩) (meth := k2m1) (c := k2c1) (by decide +kernel) rfl rfl rfl (by decide +kernel)
set_option maxRecDepth 65536 in
theorem w_c2 : (Jvm.Cond.code ({ cls := "com/example/mensura/mensura/DoubleDouble", name := "<init>", desc := "(DD)V" } : Jvm.MethodName) prog_22_method_1_code (5 : Nat) (Option.none : Option Jvm.ClassFile.FieldType)).before args0 about1 = true := code_word (m := ⟨2, 0⟩) (meth := k2m0) (c := k2c0) (by decide +kernel) rfl rfl rfl (by decide +kernel)
set_option maxRecDepth 65536 in
theorem w_c3 : (Jvm.Cond.code ({ cls := "java/lang/Object", name := "<init>", desc := "()V" } : Jvm.MethodName) object_method_1_code (1 : Nat) (Option.none : Option Jvm.ClassFile.FieldType)).before args0 about1 = true := code_word (m := ⟨0, 0⟩) (meth := k0m0) (c := k0c0) (by decide +kernel) rfl rfl rfl (by decide +kernel)
set_option maxRecDepth 65536 in
theorem w_c4 : (Jvm.Cond.code ({ cls := "com/example/mensura/mensura/DoubleDouble", name := "high", desc := "()D" } : Jvm.MethodName) prog_22_method_10_code (1 : Nat) (Option.some Jvm.ClassFile.FieldType.double)).before args0 about1 = true := code_word (m := ⟨2, 2⟩) (meth := k2m2) (c := k2c2) (by decide +kernel) rfl rfl rfl (by decide +kernel)
set_option maxRecDepth 65536 in
theorem w_c5 : (Jvm.Cond.code ({ cls := "com/example/mensura/mensura/DoubleDouble", name := "low", desc := "()D" } : Jvm.MethodName) prog_22_method_11_code (1 : Nat) (Option.some Jvm.ClassFile.FieldType.double)).before args0 about1 = true := code_word (m := ⟨2, 3⟩) (meth := k2m3) (c := k2c3) (by decide +kernel) rfl rfl rfl (by decide +kernel)
def codes1 : List Jvm.Cond := [Jvm.Cond.code x code maxLocals ret, Jvm.Cond.code ({ cls := "com/example/mensura/mensura/DoubleDouble", name := "of", desc := "([D)Lcom/example/mensura/mensura/DoubleDouble;" } : Jvm.MethodName) prog_22_method_2_code (1 : Nat) (Option.some (Jvm.ClassFile.FieldType.object "com/example/mensura/mensura/DoubleDouble")), Jvm.Cond.code ({ cls := "com/example/mensura/mensura/DoubleDouble", name := "<init>", desc := "(DD)V" } : Jvm.MethodName) prog_22_method_1_code (5 : Nat) (Option.none : Option Jvm.ClassFile.FieldType), Jvm.Cond.code ({ cls := "java/lang/Object", name := "<init>", desc := "()V" } : Jvm.MethodName) object_method_1_code (1 : Nat) (Option.none : Option Jvm.ClassFile.FieldType), Jvm.Cond.code ({ cls := "com/example/mensura/mensura/DoubleDouble", name := "high", desc := "()D" } : Jvm.MethodName) prog_22_method_10_code (1 : Nat) (Option.some Jvm.ClassFile.FieldType.double), Jvm.Cond.code ({ cls := "com/example/mensura/mensura/DoubleDouble", name := "low", desc := "()D" } : Jvm.MethodName) prog_22_method_11_code (1 : Nat) (Option.some Jvm.ClassFile.FieldType.double)]
set_option maxRecDepth 65536 in
theorem codes_eq : words1.filter isCode = codes1 := rfl
theorem w_codes : ∀ c ∈ words1.filter isCode, c.before args0 about1 = true := by
  rw [codes_eq]
  intro c hc
  simp only [codes1, List.mem_cons, List.not_mem_nil, or_false] at hc
  rcases hc with rfl | rfl | rfl | rfl | rfl | rfl
  · exact w_c0
  · exact w_c1
  · exact w_c2
  · exact w_c3
  · exact w_c4
  · exact w_c5
set_option maxRecDepth 65536 in
theorem w_t1 : (words1.take 24).all (fun c => isCode c || c.before args0 about1) = true := by decide +kernel
set_option maxRecDepth 65536 in
theorem w_t2 : (words1.drop 24).all (fun c => isCode c || c.before args0 about1) = true := by decide +kernel
theorem w_tables : (allAtoms (Jvm.Cond.code x code maxLocals ret :: tables_1)).before args0 about1 = true := by
  rw [allAtoms_all]
  show words1.all (fun c => c.before args0 about1) = true
  refine all_split ?_ w_codes
  rw [← List.take_append_drop 24 words1, List.all_append, w_t1, w_t2]
  rfl
set_option maxRecDepth 65536 in
theorem w_case : (Jvm.Cond.and given_1 narrow_1).before args0 about1 = true := by decide +kernel
theorem w_applies : (headSpec (Jvm.Cond.code x code maxLocals ret :: tables_1) room_1).applies x e0.platform about1 = true :=
  (Spec.applies_iff w_frames).mpr ⟨w_running, w_runnable, w_alone, w_named, w_hears, w_ripe, w_room, w_tables⟩
theorem atStart : AtStart classFile x code maxLocals ret World_1 tables_1 room_1 Calls_1 rest_1 Pre_1 launch0 p0 e0 about1 theMethod args0 below0 :=
  ⟨lists_1, trivial, launch0.admits_env _ _ _, launch0.least_env, fairChoices_fair.cas, fairChoices_fair.clock, w_frames, w_args, w_heap, w_applies, trivial, trivial, w_case⟩
end start1
theorem witness_1 : WitnessClaimed_1 := ⟨start1.p0, start1.e0, start1.about1, start1.theMethod, start1.args0, start1.below0, start1.atStart⟩
end Jvm.Pilot.@@N@@
