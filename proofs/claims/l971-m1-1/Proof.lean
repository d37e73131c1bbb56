import JvmDerived
import JvmDerived.Pilot.@@N@@Statement
import JvmDerived.Pilot.@@N@@Code
set_option linter.unusedVariables false
set_option linter.unusedSimpArgs false
namespace Jvm.RoadKit
open Sem ClassFile Op Lib Jvm.Stand Jvm.Free Jvm.LawKit
section New
variable {p : Program} {l : Launch} {e : Env} {R : Room} {s : State} {m : MethodId} {args : Array Value} {below : List Frame} {meth : Method} {c : Code} {T : State} {locs : List Loc} {cells slots : Nat}
theorem retI (X : Stand p l e R s m args below meth c T locs cells slots) (hx : p.tables.exec = Jvm.exec) {pc : Nat} {Ls : Array Slot} {z : Int32} {rest : List Value} (hret : meth.sig.returnType = some .int) (hd : decode c.code pc = .ok (.ireturn, 1)) {fs : List Frame}
    (hl : ∀ (f : JFrame) (acts : List Action), f.method = m → f.locked = none → f.entered = [] → (doReturn e (T.setTop f) acts (some (.int z))).1 = T.setFrames fs) : Steps p.tables e below (T.setTop (mkF m pc Ls (.int z :: rest))) (T.setFrames fs) := by
  have hm' : T.vm.method? m = some meth := X.method'
  have hn : narrow .int (.int z) = .int z := rfl
  show Steps p.tables e below (T.setTop { method := m, pc := pc, locals := Ls, stack := _ :: rest, locked := none }) _
  jvm_step X.here [X.here.top, hx, hd, hm', hret, hn]
  first | (intro acts; rw [hl _ acts rfl rfl rfl]) | rw [hl _ _ rfl rfl rfl]
  exact Steps.refl _
end New
end Jvm.RoadKit
namespace Jvm.Pilot.@@N@@
open Jvm Jvm.ClassFile Sem Op Lib Jvm.Free Jvm.Stand Jvm.LawKit Jvm.RoadKit Bundle Jvm.Pilot.@@N@@.Jvm.D
abbrev own_s (p : Program) (e : Env) (below : List Frame) (T : State) (m : MethodId) (pc : Nat) (L : Array Slot) (S : List Value) (t : State) : Prop := Steps p.tables e below (T.setTop (mkF m pc L S)) t
theorem own_fit {C : String} {v : Value} (h : v.isRef = true) : fits (.object C) v = true := by rcases ref_cases h with rfl | ⟨_, rfl⟩ <;> rfl
theorem own_cat1 {v : Value} (h : v.isRef = true) : v.category = 1 := by rcases ref_cases h with rfl | ⟨_, rfl⟩ <;> rfl
theorem own_narR {t : FieldType} {v : Value} (h : v.isRef = true) : narrow t v = v := by cases v <;> first | (cases t <;> rfl) | (cases h)
def own_ki (z : Int) : Nat := if z = 0 then 0 else if z = 1 then 1 else if z = 2 then 2 else 3
theorem own_ki4 (z : Int) : own_ki z < 4 := by unfold own_ki; repeat (first | (split) | decide)
def own_cw (K : Nat → Addr) (a o : Addr) : Int32 := if a = K 0 ∨ o = K 0 then (if a = o then 1 else 0) else (if a = o ∨ a = K 3 ∨ o = K 3 then 1 else 0)
def own_bit (i j : Int32) : Int32 := if (((60577 : Int32) >>> (((i * (4 : Int32)) + j) &&& 31)) &&& (1 : Int32)) = (0 : Int32) then 0 else 1
theorem own_four {i : Int32} (h : 0 ≤ i.toInt ∧ i.toInt ≤ 3) : i = 0 ∨ i = 1 ∨ i = 2 ∨ i = 3 := by
  rcases (by omega : i.toInt = 0 ∨ i.toInt = 1 ∨ i.toInt = 2 ∨ i.toInt = 3) with q | q | q | q
  · exact Or.inl (Int32.toInt_inj.mp q)
  · exact Or.inr (Or.inl (Int32.toInt_inj.mp q))
  · exact Or.inr (Or.inr (Or.inl (Int32.toInt_inj.mp q)))
  · exact Or.inr (Or.inr (Or.inr (Int32.toInt_inj.mp q)))
theorem own_tab {K : Nat → Addr} (n01 : K 0 ≠ K 1) (n02 : K 0 ≠ K 2) (n03 : K 0 ≠ K 3) (n12 : K 1 ≠ K 2) (n13 : K 1 ≠ K 3) (n23 : K 2 ≠ K 3) {i j : Int32} (hi : 0 ≤ i.toInt ∧ i.toInt ≤ 3) (hj : 0 ≤ j.toInt ∧ j.toInt ≤ 3) : own_cw K (K (own_ki i.toInt)) (K (own_ki j.toInt)) = own_bit i j := by
  rcases own_four hi with rfl | rfl | rfl | rfl <;> rcases own_four hj with rfl | rfl | rfl | rfl
  · show own_cw K (K 0) (K 0) = _
    rw [show own_bit 0 0 = (1 : Int32) from by decide]
    simp [own_cw, n01, n02, n03, n12, n13, n23, n01.symm, n02.symm, n03.symm, n12.symm, n13.symm, n23.symm]
  · show own_cw K (K 0) (K 1) = _
    rw [show own_bit 0 1 = (0 : Int32) from by decide]
    simp [own_cw, n01, n02, n03, n12, n13, n23, n01.symm, n02.symm, n03.symm, n12.symm, n13.symm, n23.symm]
  · show own_cw K (K 0) (K 2) = _
    rw [show own_bit 0 2 = (0 : Int32) from by decide]
    simp [own_cw, n01, n02, n03, n12, n13, n23, n01.symm, n02.symm, n03.symm, n12.symm, n13.symm, n23.symm]
  · show own_cw K (K 0) (K 3) = _
    rw [show own_bit 0 3 = (0 : Int32) from by decide]
    simp [own_cw, n01, n02, n03, n12, n13, n23, n01.symm, n02.symm, n03.symm, n12.symm, n13.symm, n23.symm]
  · show own_cw K (K 1) (K 0) = _
    rw [show own_bit 1 0 = (0 : Int32) from by decide]
    simp [own_cw, n01, n02, n03, n12, n13, n23, n01.symm, n02.symm, n03.symm, n12.symm, n13.symm, n23.symm]
  · show own_cw K (K 1) (K 1) = _
    rw [show own_bit 1 1 = (1 : Int32) from by decide]
    simp [own_cw, n01, n02, n03, n12, n13, n23, n01.symm, n02.symm, n03.symm, n12.symm, n13.symm, n23.symm]
  · show own_cw K (K 1) (K 2) = _
    rw [show own_bit 1 2 = (0 : Int32) from by decide]
    simp [own_cw, n01, n02, n03, n12, n13, n23, n01.symm, n02.symm, n03.symm, n12.symm, n13.symm, n23.symm]
  · show own_cw K (K 1) (K 3) = _
    rw [show own_bit 1 3 = (1 : Int32) from by decide]
    simp [own_cw, n01, n02, n03, n12, n13, n23, n01.symm, n02.symm, n03.symm, n12.symm, n13.symm, n23.symm]
  · show own_cw K (K 2) (K 0) = _
    rw [show own_bit 2 0 = (0 : Int32) from by decide]
    simp [own_cw, n01, n02, n03, n12, n13, n23, n01.symm, n02.symm, n03.symm, n12.symm, n13.symm, n23.symm]
  · show own_cw K (K 2) (K 1) = _
    rw [show own_bit 2 1 = (0 : Int32) from by decide]
    simp [own_cw, n01, n02, n03, n12, n13, n23, n01.symm, n02.symm, n03.symm, n12.symm, n13.symm, n23.symm]
  · show own_cw K (K 2) (K 2) = _
    rw [show own_bit 2 2 = (1 : Int32) from by decide]
    simp [own_cw, n01, n02, n03, n12, n13, n23, n01.symm, n02.symm, n03.symm, n12.symm, n13.symm, n23.symm]
  · show own_cw K (K 2) (K 3) = _
    rw [show own_bit 2 3 = (1 : Int32) from by decide]
    simp [own_cw, n01, n02, n03, n12, n13, n23, n01.symm, n02.symm, n03.symm, n12.symm, n13.symm, n23.symm]
  · show own_cw K (K 3) (K 0) = _
    rw [show own_bit 3 0 = (0 : Int32) from by decide]
    simp [own_cw, n01, n02, n03, n12, n13, n23, n01.symm, n02.symm, n03.symm, n12.symm, n13.symm, n23.symm]
  · show own_cw K (K 3) (K 1) = _
    rw [show own_bit 3 1 = (1 : Int32) from by decide]
    simp [own_cw, n01, n02, n03, n12, n13, n23, n01.symm, n02.symm, n03.symm, n12.symm, n13.symm, n23.symm]
  · show own_cw K (K 3) (K 2) = _
    rw [show own_bit 3 2 = (1 : Int32) from by decide]
    simp [own_cw, n01, n02, n03, n12, n13, n23, n01.symm, n02.symm, n03.symm, n12.symm, n13.symm, n23.symm]
  · show own_cw K (K 3) (K 3) = _
    rw [show own_bit 3 3 = (1 : Int32) from by decide]
    simp [own_cw, n01, n02, n03, n12, n13, n23, n01.symm, n02.symm, n03.symm, n12.symm, n13.symm, n23.symm]
theorem own_fe {args : Array Value} {s : State} {t : Term} {a : Addr} {C n d : String} {k : Int32} (ht : t.eval args s none [] s = some (.ref a)) (h : (Jvm.Cond.eq (.field t C n d) (.int k)).value args s none s [] = some true) : s.fieldOf? a C n d = some (.int k) := by
  obtain ⟨x, y, ex, ey, k1, k2⟩ := cmp_v (Or.inl h)
  obtain rfl : y = .int k := Option.some.inj (ey.symm.trans (Term.int_eval k))
  obtain ⟨z, rfl⟩ : ∃ z, x = .int z := k2
  have q : decide (z = k) = true := by simpa [Jvm.Cond.value, ex, ey] using h
  rw [← fld_at ht, ex, of_decide_eq_true q]
theorem d1_0 : decode method_2_code 0 = .ok (.iload_n 0, 1) := by decide +kernel
theorem d1_1 : decode method_2_code 1 = .ok (.ifCond .ne 7, 3) := by decide +kernel
theorem d1_4 : decode method_2_code 4 = .ok (.getstatic 7, 3) := by decide +kernel
theorem d1_7 : decode method_2_code 7 = .ok (.areturn, 1) := by decide +kernel
theorem d1_8 : decode method_2_code 8 = .ok (.iload_n 0, 1) := by decide +kernel
theorem d1_9 : decode method_2_code 9 = .ok (.iconst 1, 1) := by decide +kernel
theorem d1_10 : decode method_2_code 10 = .ok (.if_icmp .ne 7, 3) := by decide +kernel
theorem d1_13 : decode method_2_code 13 = .ok (.getstatic 13, 3) := by decide +kernel
theorem d1_16 : decode method_2_code 16 = .ok (.areturn, 1) := by decide +kernel
theorem d1_17 : decode method_2_code 17 = .ok (.iload_n 0, 1) := by decide +kernel
theorem d1_18 : decode method_2_code 18 = .ok (.iconst 2, 1) := by decide +kernel
theorem d1_19 : decode method_2_code 19 = .ok (.if_icmp .ne 7, 3) := by decide +kernel
theorem d1_22 : decode method_2_code 22 = .ok (.getstatic 16, 3) := by decide +kernel
theorem d1_25 : decode method_2_code 25 = .ok (.areturn, 1) := by decide +kernel
theorem d1_26 : decode method_2_code 26 = .ok (.getstatic 19, 3) := by decide +kernel
theorem d1_29 : decode method_2_code 29 = .ok (.areturn, 1) := by decide +kernel
theorem pn_1 : plainName "com/example/since/since/smv/KindComparesWithPinLaw" = true := by first | (simp [plainName, overriddenIn]; done) | decide +kernel
theorem ef_1 (m : MethodId) (p0 : Int32) : entryFrame m #[(.int p0)] 1 = mkF m 0 #[iv p0] [] := by first | (simp [entryFrame, mkF, argsToLocals, Value.category]; done) | rfl
def Q1 (Z : State) (p0 : Int32) (K : Nat → Addr) (h0 : Heap) (n0 : Nat) (v : Option Value) (h : Heap) (L : List Loc) : Prop := v = some (.ref (K (own_ki p0.toInt))) ∧ Fr n0 L ∧ h = h0
set_option maxRecDepth 65536 in
set_option maxHeartbeats 40000000 in
theorem rm1 (l : Launch) (Z : State) (a0 : Array Value) (hw : ∀ d ∈ tables_1, d.before a0 Z = true) (ws : List Jvm.Cond) (p0 : Int32) (K : Nat → Addr) (h0 : Heap) (n0 : Nat) (Z0 : n0 ≤ h0.size) (S_0 : Sta Z h0 "com/example/since/since/smv/Kind" "BOOLEAN" "Lcom/example/since/since/smv/Kind;" (.ref (K 0))) (S_1 : Sta Z h0 "com/example/since/since/smv/Kind" "INTEGER" "Lcom/example/since/since/smv/Kind;" (.ref (K 1))) (S_2 : Sta Z h0 "com/example/since/since/smv/Kind" "SYMBOLIC" "Lcom/example/since/since/smv/Kind;" (.ref (K 2))) (S_3 : Sta Z h0 "com/example/since/since/smv/Kind" "MIXED" "Lcom/example/since/since/smv/Kind;" (.ref (K 3))) :
    MetFree l (⟨"com/example/since/since/smv/KindComparesWithPinLaw", "kindOf", "(I)Lcom/example/since/since/smv/Kind;"⟩ : MethodName) (head1 (Jvm.Cond.code (⟨"com/example/since/since/smv/KindComparesWithPinLaw", "kindOf", "(I)Lcom/example/since/since/smv/Kind;"⟩ : MethodName) method_2_code 1 (some (.object "com/example/since/since/smv/Kind")) :: ws) ({ frames := 0, cells := 0, slots := 0, locals := 0 } : Room)) (fun aX UX => aX = #[(.int p0)] ∧ Z.Warmed39 UX.vm ∧ UX.heap = h0) (fun _ _ _ _ _ => True) (fun _ UX oX UY => ∃ vX LX, oX = .returned vX ∧ Q1 Z p0 K h0 n0 vX UY.heap LX ∧ FrameEnd UX oX UY LX ({ frames := 0, cells := 0, slots := 0, locals := 0 } : Room).cells ({ frames := 0, cells := 0, slots := 0, locals := 0 } : Room).slots) := by
  refine MetFree.of_bodySF (plainFor_of_name pn_1) hisR ?_
  intro p e s m args below meth c s₁ Bd hml0 hP hK
  obtain ⟨rfl, hZ, hh⟩ := hP
  have hx := Bd.exec
  have hby := Bd.bytes
  have hml : c.maxLocals = 1 := hml0
  have hown : s.vm.findClass "com/example/since/since/smv/KindComparesWithPinLaw" = some m.cls := findClass_of_methodNamed Bd.named
  have hnm := (name_of_methodNamed Bd.named Bd.method).1
  have X0 : Stand p l e ({ frames := 0, cells := 0, slots := 0, locals := 0 } : Room) s m #[(.int p0)] below meth c s₁ [] 0 0 := Stand.of_body Bd
  have e0 : s₁.heap = h0 := by rw [← hh, Bd.state]; rfl
  have N0 := Fr.nil n0
  have pre0 : ∀ t, Steps p.tables e below (s₁.setTop (mkF m 0 #[iv p0] [])) t → Steps p.tables e below (s₁.setTop (entryFrame m #[(.int p0)] 1)) t := fun t k => castTop (ef_1 m p0) k
  obtain ⟨S0, hS0⟩ : ∃ z, z = (s₁.setTop (entryFrame m #[(.int p0)] 1)) := ⟨_, rfl⟩
  rw [← hS0] at pre0
  have pre1 : ∀ t, own_s p e below s₁ m 1 #[iv p0] [(.int p0)] t → Steps p.tables e below S0 t := by
    intro tX kX
    refine pre0 _ ?_
    show own_s p e below s₁ m 0 #[iv p0] [] _
    refine XS.iloadN X0.here hx rfl (hb hby d1_0) rfl ?_
    exact kX
  by_cases hc2 : p0 = (0 : Int32)
  · skip
    have ihc2 : (p0).toInt = (0 : Int) := congrArg Int32.toInt hc2
    have pre3 : ∀ t, own_s p e below s₁ m 4 #[iv p0] [] t → Steps p.tables e below S0 t := by
      intro tX kX
      refine pre1 _ ?_
      show own_s p e below s₁ m 1 #[iv p0] [(.int p0)] _
      refine XS.ifNo X0.here hx rfl (hb hby d1_1) rfl ((if0 _ _).trans (teq hc2).2) ?_
      exact kX
    obtain ⟨T4, X4, e4, st4⟩ := getS2 X0 hx hZ hown (host := "") (Or.inl (hw _ (List.mem_of_getElem? (i := 5) rfl))) Via.refl e0 S_0 (g := (mkF m 4 #[iv p0] [])) rfl (hb hby d1_4)
    have pre5 : ∀ t, own_s p e below T4 m 7 #[iv p0] [(.ref (K 0))] t → Steps p.tables e below S0 t := fun tX kX => pre3 _ (st4 _ kX)
    subst hS0
    obtain ⟨fs, hr, hrun, hended, hW, hsame⟩ := X4.leave (v := (some (.ref (K 0)))) (fun h => by rw [Bd.returns] at h; cases h)
    refine ⟨_, _, pre5 _ (retOut X4 hx Bd.returns (own_narR rfl) (Or.inr (Or.inr (Or.inr (Or.inr ⟨rfl, rfl, rfl⟩)))) (hb hby d1_7) hr), hrun, hended, _, _, rfl, ?_, ⟨_, rfl⟩, hW, hsame.mono (by decide) (by decide)⟩
    show Q1 Z p0 K h0 n0 (some (.ref (K 0))) T4.heap _
    exact ⟨congrArg (fun z => some (Value.ref (K z))) (show 0 = own_ki p0.toInt from Eq.symm (by rw [ihc2]; rfl)), N0, e4⟩
  · skip
    have ihc2 : ¬ ((p0).toInt = (0 : Int)) := fun q => hc2 (Int32.toInt_inj.mp q)
    have pre6 : ∀ t, own_s p e below s₁ m 10 #[iv p0] [(.int (1 : Int32)), (.int p0)] t → Steps p.tables e below S0 t := by
      intro tX kX
      refine pre1 _ ?_
      show own_s p e below s₁ m 1 #[iv p0] [(.int p0)] _
      refine XS.ifYes X0.here hx rfl (pc0 := 1) (pc' := 8) rfl (hb hby d1_1) rfl ((if0 _ _).trans (feq hc2).2) (by decide) (by decide) ?_
      show own_s p e below s₁ m 8 #[iv p0] [] _
      refine XS.iloadN X0.here hx rfl (hb hby d1_8) rfl ?_
      show own_s p e below s₁ m 9 #[iv p0] [(.int p0)] _
      refine XS.iconst X0.here hx rfl (hb hby d1_9) ?_
      exact kX
    by_cases hc7 : p0 = (1 : Int32)
    · skip
      have ihc7 : (p0).toInt = (1 : Int) := congrArg Int32.toInt hc7
      have pre8 : ∀ t, own_s p e below s₁ m 13 #[iv p0] [] t → Steps p.tables e below S0 t := by
        intro tX kX
        refine pre6 _ ?_
        show own_s p e below s₁ m 10 #[iv p0] [(.int (1 : Int32)), (.int p0)] _
        refine XS.icmpNo X0.here hx rfl (hb hby d1_10) rfl (teq hc7).2 ?_
        exact kX
      obtain ⟨T9, X9, e9, st9⟩ := getS2 X0 hx hZ hown (host := "") (Or.inl (hw _ (List.mem_of_getElem? (i := 18) rfl))) Via.refl e0 S_1 (g := (mkF m 13 #[iv p0] [])) rfl (hb hby d1_13)
      have pre10 : ∀ t, own_s p e below T9 m 16 #[iv p0] [(.ref (K 1))] t → Steps p.tables e below S0 t := fun tX kX => pre8 _ (st9 _ kX)
      subst hS0
      obtain ⟨fs, hr, hrun, hended, hW, hsame⟩ := X9.leave (v := (some (.ref (K 1)))) (fun h => by rw [Bd.returns] at h; cases h)
      refine ⟨_, _, pre10 _ (retOut X9 hx Bd.returns (own_narR rfl) (Or.inr (Or.inr (Or.inr (Or.inr ⟨rfl, rfl, rfl⟩)))) (hb hby d1_16) hr), hrun, hended, _, _, rfl, ?_, ⟨_, rfl⟩, hW, hsame.mono (by decide) (by decide)⟩
      show Q1 Z p0 K h0 n0 (some (.ref (K 1))) T9.heap _
      exact ⟨congrArg (fun z => some (Value.ref (K z))) (show 1 = own_ki p0.toInt from Eq.symm (by rw [ihc7]; rfl)), N0, e9⟩
    · skip
      have ihc7 : ¬ ((p0).toInt = (1 : Int)) := fun q => hc7 (Int32.toInt_inj.mp q)
      have pre11 : ∀ t, own_s p e below s₁ m 19 #[iv p0] [(.int (2 : Int32)), (.int p0)] t → Steps p.tables e below S0 t := by
        intro tX kX
        refine pre6 _ ?_
        show own_s p e below s₁ m 10 #[iv p0] [(.int (1 : Int32)), (.int p0)] _
        refine XS.icmpYes X0.here hx rfl (pc0 := 10) (pc' := 17) rfl (hb hby d1_10) rfl (feq hc7).2 (by decide) (by decide) ?_
        show own_s p e below s₁ m 17 #[iv p0] [] _
        refine XS.iloadN X0.here hx rfl (hb hby d1_17) rfl ?_
        show own_s p e below s₁ m 18 #[iv p0] [(.int p0)] _
        refine XS.iconst X0.here hx rfl (hb hby d1_18) ?_
        exact kX
      by_cases hc12 : p0 = (2 : Int32)
      · skip
        have ihc12 : (p0).toInt = (2 : Int) := congrArg Int32.toInt hc12
        have pre13 : ∀ t, own_s p e below s₁ m 22 #[iv p0] [] t → Steps p.tables e below S0 t := by
          intro tX kX
          refine pre11 _ ?_
          show own_s p e below s₁ m 19 #[iv p0] [(.int (2 : Int32)), (.int p0)] _
          refine XS.icmpNo X0.here hx rfl (hb hby d1_19) rfl (teq hc12).2 ?_
          exact kX
        obtain ⟨T14, X14, e14, st14⟩ := getS2 X0 hx hZ hown (host := "") (Or.inl (hw _ (List.mem_of_getElem? (i := 16) rfl))) Via.refl e0 S_2 (g := (mkF m 22 #[iv p0] [])) rfl (hb hby d1_22)
        have pre15 : ∀ t, own_s p e below T14 m 25 #[iv p0] [(.ref (K 2))] t → Steps p.tables e below S0 t := fun tX kX => pre13 _ (st14 _ kX)
        subst hS0
        obtain ⟨fs, hr, hrun, hended, hW, hsame⟩ := X14.leave (v := (some (.ref (K 2)))) (fun h => by rw [Bd.returns] at h; cases h)
        refine ⟨_, _, pre15 _ (retOut X14 hx Bd.returns (own_narR rfl) (Or.inr (Or.inr (Or.inr (Or.inr ⟨rfl, rfl, rfl⟩)))) (hb hby d1_25) hr), hrun, hended, _, _, rfl, ?_, ⟨_, rfl⟩, hW, hsame.mono (by decide) (by decide)⟩
        show Q1 Z p0 K h0 n0 (some (.ref (K 2))) T14.heap _
        exact ⟨congrArg (fun z => some (Value.ref (K z))) (show 2 = own_ki p0.toInt from Eq.symm (by rw [ihc12]; rfl)), N0, e14⟩
      · skip
        have ihc12 : ¬ ((p0).toInt = (2 : Int)) := fun q => hc12 (Int32.toInt_inj.mp q)
        have pre16 : ∀ t, own_s p e below s₁ m 26 #[iv p0] [] t → Steps p.tables e below S0 t := by
          intro tX kX
          refine pre11 _ ?_
          show own_s p e below s₁ m 19 #[iv p0] [(.int (2 : Int32)), (.int p0)] _
          refine XS.icmpYes X0.here hx rfl (pc0 := 19) (pc' := 26) rfl (hb hby d1_19) rfl (feq hc12).2 (by decide) (by decide) ?_
          exact kX
        obtain ⟨T17, X17, e17, st17⟩ := getS2 X0 hx hZ hown (host := "") (Or.inl (hw _ (List.mem_of_getElem? (i := 8) rfl))) Via.refl e0 S_3 (g := (mkF m 26 #[iv p0] [])) rfl (hb hby d1_26)
        have pre18 : ∀ t, own_s p e below T17 m 29 #[iv p0] [(.ref (K 3))] t → Steps p.tables e below S0 t := fun tX kX => pre16 _ (st17 _ kX)
        subst hS0
        obtain ⟨fs, hr, hrun, hended, hW, hsame⟩ := X17.leave (v := (some (.ref (K 3)))) (fun h => by rw [Bd.returns] at h; cases h)
        refine ⟨_, _, pre18 _ (retOut X17 hx Bd.returns (own_narR rfl) (Or.inr (Or.inr (Or.inr (Or.inr ⟨rfl, rfl, rfl⟩)))) (hb hby d1_29) hr), hrun, hended, _, _, rfl, ?_, ⟨_, rfl⟩, hW, hsame.mono (by decide) (by decide)⟩
        show Q1 Z p0 K h0 n0 (some (.ref (K 3))) T17.heap _
        exact ⟨congrArg (fun z => some (Value.ref (K z))) (show 3 = own_ki p0.toInt from Eq.symm (by unfold own_ki; rw [if_neg (by omega), if_neg (by omega), if_neg (by omega)])), N0, e17⟩
theorem d2_0 : decode prog_67_method_5_code 0 = .ok (.aload_n 0, 1) := by decide +kernel
theorem d2_1 : decode prog_67_method_5_code 1 = .ok (.getstatic 3, 3) := by decide +kernel
theorem d2_4 : decode prog_67_method_5_code 4 = .ok (.if_acmp .eq 10, 3) := by decide +kernel
theorem d2_7 : decode prog_67_method_5_code 7 = .ok (.aload_n 1, 1) := by decide +kernel
theorem d2_8 : decode prog_67_method_5_code 8 = .ok (.getstatic 3, 3) := by decide +kernel
theorem d2_11 : decode prog_67_method_5_code 11 = .ok (.if_acmp .ne 17, 3) := by decide +kernel
theorem d2_14 : decode prog_67_method_5_code 14 = .ok (.aload_n 0, 1) := by decide +kernel
theorem d2_15 : decode prog_67_method_5_code 15 = .ok (.aload_n 1, 1) := by decide +kernel
theorem d2_16 : decode prog_67_method_5_code 16 = .ok (.if_acmp .ne 7, 3) := by decide +kernel
theorem d2_19 : decode prog_67_method_5_code 19 = .ok (.iconst 1, 1) := by decide +kernel
theorem d2_20 : decode prog_67_method_5_code 20 = .ok (.goto 4, 3) := by decide +kernel
theorem d2_23 : decode prog_67_method_5_code 23 = .ok (.iconst 0, 1) := by decide +kernel
theorem d2_24 : decode prog_67_method_5_code 24 = .ok (.istore_n 2, 1) := by decide +kernel
theorem d2_25 : decode prog_67_method_5_code 25 = .ok (.goto 28, 3) := by decide +kernel
theorem d2_28 : decode prog_67_method_5_code 28 = .ok (.aload_n 0, 1) := by decide +kernel
theorem d2_29 : decode prog_67_method_5_code 29 = .ok (.aload_n 1, 1) := by decide +kernel
theorem d2_30 : decode prog_67_method_5_code 30 = .ok (.if_acmp .eq 17, 3) := by decide +kernel
theorem d2_33 : decode prog_67_method_5_code 33 = .ok (.aload_n 0, 1) := by decide +kernel
theorem d2_34 : decode prog_67_method_5_code 34 = .ok (.getstatic 13, 3) := by decide +kernel
theorem d2_37 : decode prog_67_method_5_code 37 = .ok (.if_acmp .eq 10, 3) := by decide +kernel
theorem d2_40 : decode prog_67_method_5_code 40 = .ok (.aload_n 1, 1) := by decide +kernel
theorem d2_41 : decode prog_67_method_5_code 41 = .ok (.getstatic 13, 3) := by decide +kernel
theorem d2_44 : decode prog_67_method_5_code 44 = .ok (.if_acmp .ne 7, 3) := by decide +kernel
theorem d2_47 : decode prog_67_method_5_code 47 = .ok (.iconst 1, 1) := by decide +kernel
theorem d2_48 : decode prog_67_method_5_code 48 = .ok (.goto 4, 3) := by decide +kernel
theorem d2_51 : decode prog_67_method_5_code 51 = .ok (.iconst 0, 1) := by decide +kernel
theorem d2_52 : decode prog_67_method_5_code 52 = .ok (.istore_n 2, 1) := by decide +kernel
theorem d2_53 : decode prog_67_method_5_code 53 = .ok (.iload_n 2, 1) := by decide +kernel
theorem d2_54 : decode prog_67_method_5_code 54 = .ok (.ireturn, 1) := by decide +kernel
theorem pn_2 : plainName "com/example/since/since/smv/Kind" = true := by first | (simp [plainName, overriddenIn]; done) | decide +kernel
theorem ef_2 (m : MethodId) (a : Addr) (o : Addr) : entryFrame m #[(.ref a), (.ref o)] 3 = mkF m 0 #[rv a, rv o, .unset] [] := by first | (simp [entryFrame, mkF, argsToLocals, Value.category]; done) | rfl
def Q2 (Z : State) (a : Addr) (o : Addr) (K : Nat → Addr) (h0 : Heap) (n0 : Nat) (v : Option Value) (h : Heap) (L : List Loc) : Prop := v = some (.int (own_cw K a o)) ∧ Fr n0 L ∧ h = h0
set_option maxRecDepth 65536 in
set_option maxHeartbeats 40000000 in
theorem rm2 (l : Launch) (Z : State) (a0 : Array Value) (hw : ∀ d ∈ tables_1, d.before a0 Z = true) (ws : List Jvm.Cond) (a : Addr) (o : Addr) (K : Nat → Addr) (h0 : Heap) (n0 : Nat) (Z0 : n0 ≤ h0.size) (S_0 : Sta Z h0 "com/example/since/since/smv/Kind" "BOOLEAN" "Lcom/example/since/since/smv/Kind;" (.ref (K 0))) (S_1 : Sta Z h0 "com/example/since/since/smv/Kind" "INTEGER" "Lcom/example/since/since/smv/Kind;" (.ref (K 1))) (S_2 : Sta Z h0 "com/example/since/since/smv/Kind" "SYMBOLIC" "Lcom/example/since/since/smv/Kind;" (.ref (K 2))) (S_3 : Sta Z h0 "com/example/since/since/smv/Kind" "MIXED" "Lcom/example/since/since/smv/Kind;" (.ref (K 3))) :
    MetFree l (⟨"com/example/since/since/smv/Kind", "comparesWith", "(Lcom/example/since/since/smv/Kind;)Z"⟩ : MethodName) (head1 (Jvm.Cond.code (⟨"com/example/since/since/smv/Kind", "comparesWith", "(Lcom/example/since/since/smv/Kind;)Z"⟩ : MethodName) prog_67_method_5_code 3 (some .boolean) :: ws) ({ frames := 0, cells := 0, slots := 0, locals := 0 } : Room)) (fun aX UX => aX = #[(.ref a), (.ref o)] ∧ Z.Warmed39 UX.vm ∧ UX.heap = h0) (fun _ _ _ _ _ => True) (fun _ UX oX UY => ∃ vX LX, oX = .returned vX ∧ Q2 Z a o K h0 n0 vX UY.heap LX ∧ FrameEnd UX oX UY LX ({ frames := 0, cells := 0, slots := 0, locals := 0 } : Room).cells ({ frames := 0, cells := 0, slots := 0, locals := 0 } : Room).slots) := by
  refine MetFree.of_bodySF (plainFor_of_name pn_2) hisR ?_
  intro p e s m args below meth c s₁ Bd hml0 hP hK
  obtain ⟨rfl, hZ, hh⟩ := hP
  have hx := Bd.exec
  have hby := Bd.bytes
  have hml : c.maxLocals = 3 := hml0
  have hown : s.vm.findClass "com/example/since/since/smv/Kind" = some m.cls := findClass_of_methodNamed Bd.named
  have hnm := (name_of_methodNamed Bd.named Bd.method).1
  have X0 : Stand p l e ({ frames := 0, cells := 0, slots := 0, locals := 0 } : Room) s m #[(.ref a), (.ref o)] below meth c s₁ [] 0 0 := Stand.of_body Bd
  have e0 : s₁.heap = h0 := by rw [← hh, Bd.state]; rfl
  have N0 := Fr.nil n0
  have pre0 : ∀ t, Steps p.tables e below (s₁.setTop (mkF m 0 #[rv a, rv o, .unset] [])) t → Steps p.tables e below (s₁.setTop (entryFrame m #[(.ref a), (.ref o)] 3)) t := fun t k => castTop (ef_2 m a o) k
  obtain ⟨S0, hS0⟩ : ∃ z, z = (s₁.setTop (entryFrame m #[(.ref a), (.ref o)] 3)) := ⟨_, rfl⟩
  rw [← hS0] at pre0
  have pre1 : ∀ t, own_s p e below s₁ m 1 #[rv a, rv o, .unset] [(.ref a)] t → Steps p.tables e below S0 t := by
    intro tX kX
    refine pre0 _ ?_
    show own_s p e below s₁ m 0 #[rv a, rv o, .unset] [] _
    refine XS.aloadN X0.here hx rfl (hb hby d2_0) rfl rfl ?_
    exact kX
  obtain ⟨T2, X2, e2, st2⟩ := getS2 X0 hx hZ hown (host := "") (Or.inl (hw _ (List.mem_of_getElem? (i := 15) rfl))) Via.refl e0 S_0 (g := (mkF m 1 #[rv a, rv o, .unset] [(.ref a)])) rfl (hb hby d2_1)
  have pre3 : ∀ t, own_s p e below T2 m 4 #[rv a, rv o, .unset] [(.ref (K 0)), (.ref a)] t → Steps p.tables e below S0 t := fun tX kX => pre1 _ (st2 _ kX)
  by_cases hc4 : a = (K 0)
  · skip
    have pre5 : ∀ t, own_s p e below T2 m 16 #[rv a, rv o, .unset] [(.ref o), (.ref a)] t → Steps p.tables e below S0 t := by
      intro tX kX
      refine pre3 _ ?_
      show own_s p e below T2 m 4 #[rv a, rv o, .unset] [(.ref (K 0)), (.ref a)] _
      refine Jvm.RoadKit.acmp (g := (mkF m 4 #[rv a, rv o, .unset] [(.ref (K 0)), (.ref a)])) X2 hx rfl rfl rfl (pc0 := 4) (pc' := 14) (same := true) rfl (hb hby d2_4) rfl (decide_eq_true (congrArg Value.ref hc4)) (by decide) (by decide) ?_
      show own_s p e below T2 m 14 #[rv a, rv o, .unset] [] _
      refine XS.aloadN X2.here hx rfl (hb hby d2_14) rfl rfl ?_
      show own_s p e below T2 m 15 #[rv a, rv o, .unset] [(.ref a)] _
      refine XS.aloadN X2.here hx rfl (hb hby d2_15) rfl rfl ?_
      exact kX
    by_cases hc6 : a = o
    · skip
      have pre7 : ∀ t, own_s p e below T2 m 54 #[rv a, rv o, iv (1 : Int32)] [(.int (1 : Int32))] t → Steps p.tables e below S0 t := by
        intro tX kX
        refine pre5 _ ?_
        show own_s p e below T2 m 16 #[rv a, rv o, .unset] [(.ref o), (.ref a)] _
        refine Jvm.RoadKit.acmp (g := (mkF m 16 #[rv a, rv o, .unset] [(.ref o), (.ref a)])) X2 hx rfl rfl rfl (pc0 := 16) (pc' := 19) (same := true) rfl (hb hby d2_16) rfl (decide_eq_true (congrArg Value.ref hc6)) (by decide) (by decide) ?_
        show own_s p e below T2 m 19 #[rv a, rv o, .unset] [] _
        refine XS.iconst X2.here hx rfl (hb hby d2_19) ?_
        show own_s p e below T2 m 20 #[rv a, rv o, .unset] [(.int (1 : Int32))] _
        refine XS.goto X2.here hx rfl (pc0 := 20) (pc' := 24) rfl (hb hby d2_20) (by decide) (by decide) ?_
        show own_s p e below T2 m 24 #[rv a, rv o, .unset] [(.int (1 : Int32))] _
        refine XS.istoreN X2.here hx rfl (hb hby d2_24) rfl (l' := #[rv a, rv o, iv (1 : Int32)]) rfl ?_
        show own_s p e below T2 m 25 #[rv a, rv o, iv (1 : Int32)] [] _
        refine XS.goto X2.here hx rfl (pc0 := 25) (pc' := 53) rfl (hb hby d2_25) (by decide) (by decide) ?_
        show own_s p e below T2 m 53 #[rv a, rv o, iv (1 : Int32)] [] _
        refine XS.iloadN X2.here hx rfl (hb hby d2_53) rfl ?_
        exact kX
      subst hS0
      obtain ⟨fs, hr, hrun, hended, hW, hsame⟩ := X2.leave (v := (some (.int (1 : Int32)))) (fun h => by rw [Bd.returns] at h; cases h)
      refine ⟨_, _, pre7 _ (retN X2 hx (t := .boolean) Bd.returns (by simp) (hb hby d2_54) hr), hrun, hended, _, _, rfl, ?_, ⟨_, rfl⟩, hW, hsame.mono (by decide) (by decide)⟩
      show Q2 Z a o K h0 n0 (some (.int (1 : Int32))) T2.heap _
      exact ⟨congrArg (fun z => some (Value.int z)) (show (1 : Int32) = own_cw K a o from by unfold own_cw; rw [if_pos (Or.inl hc4), if_pos hc6]), N0, e2⟩
    · skip
      have pre8 : ∀ t, own_s p e below T2 m 54 #[rv a, rv o, iv (0 : Int32)] [(.int (0 : Int32))] t → Steps p.tables e below S0 t := by
        intro tX kX
        refine pre5 _ ?_
        show own_s p e below T2 m 16 #[rv a, rv o, .unset] [(.ref o), (.ref a)] _
        refine Jvm.RoadKit.acmp (g := (mkF m 16 #[rv a, rv o, .unset] [(.ref o), (.ref a)])) X2 hx rfl rfl rfl (pc0 := 16) (pc' := 23) (same := false) rfl (hb hby d2_16) rfl (decide_eq_false (fun q => hc6 (Value.ref.inj q))) (by decide) (by decide) ?_
        show own_s p e below T2 m 23 #[rv a, rv o, .unset] [] _
        refine XS.iconst X2.here hx rfl (hb hby d2_23) ?_
        show own_s p e below T2 m 24 #[rv a, rv o, .unset] [(.int (0 : Int32))] _
        refine XS.istoreN X2.here hx rfl (hb hby d2_24) rfl (l' := #[rv a, rv o, iv (0 : Int32)]) rfl ?_
        show own_s p e below T2 m 25 #[rv a, rv o, iv (0 : Int32)] [] _
        refine XS.goto X2.here hx rfl (pc0 := 25) (pc' := 53) rfl (hb hby d2_25) (by decide) (by decide) ?_
        show own_s p e below T2 m 53 #[rv a, rv o, iv (0 : Int32)] [] _
        refine XS.iloadN X2.here hx rfl (hb hby d2_53) rfl ?_
        exact kX
      subst hS0
      obtain ⟨fs, hr, hrun, hended, hW, hsame⟩ := X2.leave (v := (some (.int (0 : Int32)))) (fun h => by rw [Bd.returns] at h; cases h)
      refine ⟨_, _, pre8 _ (retN X2 hx (t := .boolean) Bd.returns (by simp) (hb hby d2_54) hr), hrun, hended, _, _, rfl, ?_, ⟨_, rfl⟩, hW, hsame.mono (by decide) (by decide)⟩
      show Q2 Z a o K h0 n0 (some (.int (0 : Int32))) T2.heap _
      exact ⟨congrArg (fun z => some (Value.int z)) (show (0 : Int32) = own_cw K a o from by unfold own_cw; rw [if_pos (Or.inl hc4), if_neg hc6]), N0, e2⟩
  · skip
    have pre9 : ∀ t, own_s p e below T2 m 8 #[rv a, rv o, .unset] [(.ref o)] t → Steps p.tables e below S0 t := by
      intro tX kX
      refine pre3 _ ?_
      show own_s p e below T2 m 4 #[rv a, rv o, .unset] [(.ref (K 0)), (.ref a)] _
      refine Jvm.RoadKit.acmp (g := (mkF m 4 #[rv a, rv o, .unset] [(.ref (K 0)), (.ref a)])) X2 hx rfl rfl rfl (pc0 := 4) (pc' := 7) (same := false) rfl (hb hby d2_4) rfl (decide_eq_false (fun q => hc4 (Value.ref.inj q))) (by decide) (by decide) ?_
      show own_s p e below T2 m 7 #[rv a, rv o, .unset] [] _
      refine XS.aloadN X2.here hx rfl (hb hby d2_7) rfl rfl ?_
      exact kX
    obtain ⟨T10, X10, e10, st10⟩ := getS2 X2 hx hZ hown (host := "") (Or.inl (hw _ (List.mem_of_getElem? (i := 15) rfl))) Via.refl e2 S_0 (g := (mkF m 8 #[rv a, rv o, .unset] [(.ref o)])) rfl (hb hby d2_8)
    have pre11 : ∀ t, own_s p e below T10 m 11 #[rv a, rv o, .unset] [(.ref (K 0)), (.ref o)] t → Steps p.tables e below S0 t := fun tX kX => pre9 _ (st10 _ kX)
    by_cases hc12 : o = (K 0)
    · skip
      have pre13 : ∀ t, own_s p e below T10 m 16 #[rv a, rv o, .unset] [(.ref o), (.ref a)] t → Steps p.tables e below S0 t := by
        intro tX kX
        refine pre11 _ ?_
        show own_s p e below T10 m 11 #[rv a, rv o, .unset] [(.ref (K 0)), (.ref o)] _
        refine Jvm.RoadKit.acmp (g := (mkF m 11 #[rv a, rv o, .unset] [(.ref (K 0)), (.ref o)])) X10 hx rfl rfl rfl (pc0 := 11) (pc' := 14) (same := true) rfl (hb hby d2_11) rfl (decide_eq_true (congrArg Value.ref hc12)) (by decide) (by decide) ?_
        show own_s p e below T10 m 14 #[rv a, rv o, .unset] [] _
        refine XS.aloadN X10.here hx rfl (hb hby d2_14) rfl rfl ?_
        show own_s p e below T10 m 15 #[rv a, rv o, .unset] [(.ref a)] _
        refine XS.aloadN X10.here hx rfl (hb hby d2_15) rfl rfl ?_
        exact kX
      by_cases hc14 : a = o
      · skip
        have pre15 : ∀ t, own_s p e below T10 m 54 #[rv a, rv o, iv (1 : Int32)] [(.int (1 : Int32))] t → Steps p.tables e below S0 t := by
          intro tX kX
          refine pre13 _ ?_
          show own_s p e below T10 m 16 #[rv a, rv o, .unset] [(.ref o), (.ref a)] _
          refine Jvm.RoadKit.acmp (g := (mkF m 16 #[rv a, rv o, .unset] [(.ref o), (.ref a)])) X10 hx rfl rfl rfl (pc0 := 16) (pc' := 19) (same := true) rfl (hb hby d2_16) rfl (decide_eq_true (congrArg Value.ref hc14)) (by decide) (by decide) ?_
          show own_s p e below T10 m 19 #[rv a, rv o, .unset] [] _
          refine XS.iconst X10.here hx rfl (hb hby d2_19) ?_
          show own_s p e below T10 m 20 #[rv a, rv o, .unset] [(.int (1 : Int32))] _
          refine XS.goto X10.here hx rfl (pc0 := 20) (pc' := 24) rfl (hb hby d2_20) (by decide) (by decide) ?_
          show own_s p e below T10 m 24 #[rv a, rv o, .unset] [(.int (1 : Int32))] _
          refine XS.istoreN X10.here hx rfl (hb hby d2_24) rfl (l' := #[rv a, rv o, iv (1 : Int32)]) rfl ?_
          show own_s p e below T10 m 25 #[rv a, rv o, iv (1 : Int32)] [] _
          refine XS.goto X10.here hx rfl (pc0 := 25) (pc' := 53) rfl (hb hby d2_25) (by decide) (by decide) ?_
          show own_s p e below T10 m 53 #[rv a, rv o, iv (1 : Int32)] [] _
          refine XS.iloadN X10.here hx rfl (hb hby d2_53) rfl ?_
          exact kX
        subst hS0
        obtain ⟨fs, hr, hrun, hended, hW, hsame⟩ := X10.leave (v := (some (.int (1 : Int32)))) (fun h => by rw [Bd.returns] at h; cases h)
        refine ⟨_, _, pre15 _ (retN X10 hx (t := .boolean) Bd.returns (by simp) (hb hby d2_54) hr), hrun, hended, _, _, rfl, ?_, ⟨_, rfl⟩, hW, hsame.mono (by decide) (by decide)⟩
        show Q2 Z a o K h0 n0 (some (.int (1 : Int32))) T10.heap _
        exact ⟨congrArg (fun z => some (Value.int z)) (show (1 : Int32) = own_cw K a o from by unfold own_cw; rw [if_pos (Or.inr hc12), if_pos hc14]), N0, e10⟩
      · skip
        have pre16 : ∀ t, own_s p e below T10 m 54 #[rv a, rv o, iv (0 : Int32)] [(.int (0 : Int32))] t → Steps p.tables e below S0 t := by
          intro tX kX
          refine pre13 _ ?_
          show own_s p e below T10 m 16 #[rv a, rv o, .unset] [(.ref o), (.ref a)] _
          refine Jvm.RoadKit.acmp (g := (mkF m 16 #[rv a, rv o, .unset] [(.ref o), (.ref a)])) X10 hx rfl rfl rfl (pc0 := 16) (pc' := 23) (same := false) rfl (hb hby d2_16) rfl (decide_eq_false (fun q => hc14 (Value.ref.inj q))) (by decide) (by decide) ?_
          show own_s p e below T10 m 23 #[rv a, rv o, .unset] [] _
          refine XS.iconst X10.here hx rfl (hb hby d2_23) ?_
          show own_s p e below T10 m 24 #[rv a, rv o, .unset] [(.int (0 : Int32))] _
          refine XS.istoreN X10.here hx rfl (hb hby d2_24) rfl (l' := #[rv a, rv o, iv (0 : Int32)]) rfl ?_
          show own_s p e below T10 m 25 #[rv a, rv o, iv (0 : Int32)] [] _
          refine XS.goto X10.here hx rfl (pc0 := 25) (pc' := 53) rfl (hb hby d2_25) (by decide) (by decide) ?_
          show own_s p e below T10 m 53 #[rv a, rv o, iv (0 : Int32)] [] _
          refine XS.iloadN X10.here hx rfl (hb hby d2_53) rfl ?_
          exact kX
        subst hS0
        obtain ⟨fs, hr, hrun, hended, hW, hsame⟩ := X10.leave (v := (some (.int (0 : Int32)))) (fun h => by rw [Bd.returns] at h; cases h)
        refine ⟨_, _, pre16 _ (retN X10 hx (t := .boolean) Bd.returns (by simp) (hb hby d2_54) hr), hrun, hended, _, _, rfl, ?_, ⟨_, rfl⟩, hW, hsame.mono (by decide) (by decide)⟩
        show Q2 Z a o K h0 n0 (some (.int (0 : Int32))) T10.heap _
        exact ⟨congrArg (fun z => some (Value.int z)) (show (0 : Int32) = own_cw K a o from by unfold own_cw; rw [if_pos (Or.inr hc12), if_neg hc14]), N0, e10⟩
    · skip
      have pre17 : ∀ t, own_s p e below T10 m 30 #[rv a, rv o, .unset] [(.ref o), (.ref a)] t → Steps p.tables e below S0 t := by
        intro tX kX
        refine pre11 _ ?_
        show own_s p e below T10 m 11 #[rv a, rv o, .unset] [(.ref (K 0)), (.ref o)] _
        refine Jvm.RoadKit.acmp (g := (mkF m 11 #[rv a, rv o, .unset] [(.ref (K 0)), (.ref o)])) X10 hx rfl rfl rfl (pc0 := 11) (pc' := 28) (same := false) rfl (hb hby d2_11) rfl (decide_eq_false (fun q => hc12 (Value.ref.inj q))) (by decide) (by decide) ?_
        show own_s p e below T10 m 28 #[rv a, rv o, .unset] [] _
        refine XS.aloadN X10.here hx rfl (hb hby d2_28) rfl rfl ?_
        show own_s p e below T10 m 29 #[rv a, rv o, .unset] [(.ref a)] _
        refine XS.aloadN X10.here hx rfl (hb hby d2_29) rfl rfl ?_
        exact kX
      by_cases hc18 : a = o
      · skip
        have pre19 : ∀ t, own_s p e below T10 m 54 #[rv a, rv o, iv (1 : Int32)] [(.int (1 : Int32))] t → Steps p.tables e below S0 t := by
          intro tX kX
          refine pre17 _ ?_
          show own_s p e below T10 m 30 #[rv a, rv o, .unset] [(.ref o), (.ref a)] _
          refine Jvm.RoadKit.acmp (g := (mkF m 30 #[rv a, rv o, .unset] [(.ref o), (.ref a)])) X10 hx rfl rfl rfl (pc0 := 30) (pc' := 47) (same := true) rfl (hb hby d2_30) rfl (decide_eq_true (congrArg Value.ref hc18)) (by decide) (by decide) ?_
          show own_s p e below T10 m 47 #[rv a, rv o, .unset] [] _
          refine XS.iconst X10.here hx rfl (hb hby d2_47) ?_
          show own_s p e below T10 m 48 #[rv a, rv o, .unset] [(.int (1 : Int32))] _
          refine XS.goto X10.here hx rfl (pc0 := 48) (pc' := 52) rfl (hb hby d2_48) (by decide) (by decide) ?_
          show own_s p e below T10 m 52 #[rv a, rv o, .unset] [(.int (1 : Int32))] _
          refine XS.istoreN X10.here hx rfl (hb hby d2_52) rfl (l' := #[rv a, rv o, iv (1 : Int32)]) rfl ?_
          show own_s p e below T10 m 53 #[rv a, rv o, iv (1 : Int32)] [] _
          refine XS.iloadN X10.here hx rfl (hb hby d2_53) rfl ?_
          exact kX
        subst hS0
        obtain ⟨fs, hr, hrun, hended, hW, hsame⟩ := X10.leave (v := (some (.int (1 : Int32)))) (fun h => by rw [Bd.returns] at h; cases h)
        refine ⟨_, _, pre19 _ (retN X10 hx (t := .boolean) Bd.returns (by simp) (hb hby d2_54) hr), hrun, hended, _, _, rfl, ?_, ⟨_, rfl⟩, hW, hsame.mono (by decide) (by decide)⟩
        show Q2 Z a o K h0 n0 (some (.int (1 : Int32))) T10.heap _
        exact ⟨congrArg (fun z => some (Value.int z)) (show (1 : Int32) = own_cw K a o from by unfold own_cw; rw [if_neg (fun q => q.elim hc4 hc12), if_pos (Or.inl hc18)]), N0, e10⟩
      · skip
        have pre20 : ∀ t, own_s p e below T10 m 34 #[rv a, rv o, .unset] [(.ref a)] t → Steps p.tables e below S0 t := by
          intro tX kX
          refine pre17 _ ?_
          show own_s p e below T10 m 30 #[rv a, rv o, .unset] [(.ref o), (.ref a)] _
          refine Jvm.RoadKit.acmp (g := (mkF m 30 #[rv a, rv o, .unset] [(.ref o), (.ref a)])) X10 hx rfl rfl rfl (pc0 := 30) (pc' := 33) (same := false) rfl (hb hby d2_30) rfl (decide_eq_false (fun q => hc18 (Value.ref.inj q))) (by decide) (by decide) ?_
          show own_s p e below T10 m 33 #[rv a, rv o, .unset] [] _
          refine XS.aloadN X10.here hx rfl (hb hby d2_33) rfl rfl ?_
          exact kX
        obtain ⟨T21, X21, e21, st21⟩ := getS2 X10 hx hZ hown (host := "") (Or.inl (hw _ (List.mem_of_getElem? (i := 20) rfl))) Via.refl e10 S_3 (g := (mkF m 34 #[rv a, rv o, .unset] [(.ref a)])) rfl (hb hby d2_34)
        have pre22 : ∀ t, own_s p e below T21 m 37 #[rv a, rv o, .unset] [(.ref (K 3)), (.ref a)] t → Steps p.tables e below S0 t := fun tX kX => pre20 _ (st21 _ kX)
        by_cases hc23 : a = (K 3)
        · skip
          have pre24 : ∀ t, own_s p e below T21 m 54 #[rv a, rv o, iv (1 : Int32)] [(.int (1 : Int32))] t → Steps p.tables e below S0 t := by
            intro tX kX
            refine pre22 _ ?_
            show own_s p e below T21 m 37 #[rv a, rv o, .unset] [(.ref (K 3)), (.ref a)] _
            refine Jvm.RoadKit.acmp (g := (mkF m 37 #[rv a, rv o, .unset] [(.ref (K 3)), (.ref a)])) X21 hx rfl rfl rfl (pc0 := 37) (pc' := 47) (same := true) rfl (hb hby d2_37) rfl (decide_eq_true (congrArg Value.ref hc23)) (by decide) (by decide) ?_
            show own_s p e below T21 m 47 #[rv a, rv o, .unset] [] _
            refine XS.iconst X21.here hx rfl (hb hby d2_47) ?_
            show own_s p e below T21 m 48 #[rv a, rv o, .unset] [(.int (1 : Int32))] _
            refine XS.goto X21.here hx rfl (pc0 := 48) (pc' := 52) rfl (hb hby d2_48) (by decide) (by decide) ?_
            show own_s p e below T21 m 52 #[rv a, rv o, .unset] [(.int (1 : Int32))] _
            refine XS.istoreN X21.here hx rfl (hb hby d2_52) rfl (l' := #[rv a, rv o, iv (1 : Int32)]) rfl ?_
            show own_s p e below T21 m 53 #[rv a, rv o, iv (1 : Int32)] [] _
            refine XS.iloadN X21.here hx rfl (hb hby d2_53) rfl ?_
            exact kX
          subst hS0
          obtain ⟨fs, hr, hrun, hended, hW, hsame⟩ := X21.leave (v := (some (.int (1 : Int32)))) (fun h => by rw [Bd.returns] at h; cases h)
          refine ⟨_, _, pre24 _ (retN X21 hx (t := .boolean) Bd.returns (by simp) (hb hby d2_54) hr), hrun, hended, _, _, rfl, ?_, ⟨_, rfl⟩, hW, hsame.mono (by decide) (by decide)⟩
          show Q2 Z a o K h0 n0 (some (.int (1 : Int32))) T21.heap _
          exact ⟨congrArg (fun z => some (Value.int z)) (show (1 : Int32) = own_cw K a o from by unfold own_cw; rw [if_neg (fun q => q.elim hc4 hc12), if_pos (Or.inr (Or.inl hc23))]), N0, e21⟩
        · skip
          have pre25 : ∀ t, own_s p e below T21 m 41 #[rv a, rv o, .unset] [(.ref o)] t → Steps p.tables e below S0 t := by
            intro tX kX
            refine pre22 _ ?_
            show own_s p e below T21 m 37 #[rv a, rv o, .unset] [(.ref (K 3)), (.ref a)] _
            refine Jvm.RoadKit.acmp (g := (mkF m 37 #[rv a, rv o, .unset] [(.ref (K 3)), (.ref a)])) X21 hx rfl rfl rfl (pc0 := 37) (pc' := 40) (same := false) rfl (hb hby d2_37) rfl (decide_eq_false (fun q => hc23 (Value.ref.inj q))) (by decide) (by decide) ?_
            show own_s p e below T21 m 40 #[rv a, rv o, .unset] [] _
            refine XS.aloadN X21.here hx rfl (hb hby d2_40) rfl rfl ?_
            exact kX
          obtain ⟨T26, X26, e26, st26⟩ := getS2 X21 hx hZ hown (host := "") (Or.inl (hw _ (List.mem_of_getElem? (i := 20) rfl))) Via.refl e21 S_3 (g := (mkF m 41 #[rv a, rv o, .unset] [(.ref o)])) rfl (hb hby d2_41)
          have pre27 : ∀ t, own_s p e below T26 m 44 #[rv a, rv o, .unset] [(.ref (K 3)), (.ref o)] t → Steps p.tables e below S0 t := fun tX kX => pre25 _ (st26 _ kX)
          by_cases hc28 : o = (K 3)
          · skip
            have pre29 : ∀ t, own_s p e below T26 m 54 #[rv a, rv o, iv (1 : Int32)] [(.int (1 : Int32))] t → Steps p.tables e below S0 t := by
              intro tX kX
              refine pre27 _ ?_
              show own_s p e below T26 m 44 #[rv a, rv o, .unset] [(.ref (K 3)), (.ref o)] _
              refine Jvm.RoadKit.acmp (g := (mkF m 44 #[rv a, rv o, .unset] [(.ref (K 3)), (.ref o)])) X26 hx rfl rfl rfl (pc0 := 44) (pc' := 47) (same := true) rfl (hb hby d2_44) rfl (decide_eq_true (congrArg Value.ref hc28)) (by decide) (by decide) ?_
              show own_s p e below T26 m 47 #[rv a, rv o, .unset] [] _
              refine XS.iconst X26.here hx rfl (hb hby d2_47) ?_
              show own_s p e below T26 m 48 #[rv a, rv o, .unset] [(.int (1 : Int32))] _
              refine XS.goto X26.here hx rfl (pc0 := 48) (pc' := 52) rfl (hb hby d2_48) (by decide) (by decide) ?_
              show own_s p e below T26 m 52 #[rv a, rv o, .unset] [(.int (1 : Int32))] _
              refine XS.istoreN X26.here hx rfl (hb hby d2_52) rfl (l' := #[rv a, rv o, iv (1 : Int32)]) rfl ?_
              show own_s p e below T26 m 53 #[rv a, rv o, iv (1 : Int32)] [] _
              refine XS.iloadN X26.here hx rfl (hb hby d2_53) rfl ?_
              exact kX
            subst hS0
            obtain ⟨fs, hr, hrun, hended, hW, hsame⟩ := X26.leave (v := (some (.int (1 : Int32)))) (fun h => by rw [Bd.returns] at h; cases h)
            refine ⟨_, _, pre29 _ (retN X26 hx (t := .boolean) Bd.returns (by simp) (hb hby d2_54) hr), hrun, hended, _, _, rfl, ?_, ⟨_, rfl⟩, hW, hsame.mono (by decide) (by decide)⟩
            show Q2 Z a o K h0 n0 (some (.int (1 : Int32))) T26.heap _
            exact ⟨congrArg (fun z => some (Value.int z)) (show (1 : Int32) = own_cw K a o from by unfold own_cw; rw [if_neg (fun q => q.elim hc4 hc12), if_pos (Or.inr (Or.inr hc28))]), N0, e26⟩
          · skip
            have pre30 : ∀ t, own_s p e below T26 m 54 #[rv a, rv o, iv (0 : Int32)] [(.int (0 : Int32))] t → Steps p.tables e below S0 t := by
              intro tX kX
              refine pre27 _ ?_
              show own_s p e below T26 m 44 #[rv a, rv o, .unset] [(.ref (K 3)), (.ref o)] _
              refine Jvm.RoadKit.acmp (g := (mkF m 44 #[rv a, rv o, .unset] [(.ref (K 3)), (.ref o)])) X26 hx rfl rfl rfl (pc0 := 44) (pc' := 51) (same := false) rfl (hb hby d2_44) rfl (decide_eq_false (fun q => hc28 (Value.ref.inj q))) (by decide) (by decide) ?_
              show own_s p e below T26 m 51 #[rv a, rv o, .unset] [] _
              refine XS.iconst X26.here hx rfl (hb hby d2_51) ?_
              show own_s p e below T26 m 52 #[rv a, rv o, .unset] [(.int (0 : Int32))] _
              refine XS.istoreN X26.here hx rfl (hb hby d2_52) rfl (l' := #[rv a, rv o, iv (0 : Int32)]) rfl ?_
              show own_s p e below T26 m 53 #[rv a, rv o, iv (0 : Int32)] [] _
              refine XS.iloadN X26.here hx rfl (hb hby d2_53) rfl ?_
              exact kX
            subst hS0
            obtain ⟨fs, hr, hrun, hended, hW, hsame⟩ := X26.leave (v := (some (.int (0 : Int32)))) (fun h => by rw [Bd.returns] at h; cases h)
            refine ⟨_, _, pre30 _ (retN X26 hx (t := .boolean) Bd.returns (by simp) (hb hby d2_54) hr), hrun, hended, _, _, rfl, ?_, ⟨_, rfl⟩, hW, hsame.mono (by decide) (by decide)⟩
            show Q2 Z a o K h0 n0 (some (.int (0 : Int32))) T26.heap _
            exact ⟨congrArg (fun z => some (Value.int z)) (show (0 : Int32) = own_cw K a o from by unfold own_cw; rw [if_neg (fun q => q.elim hc4 hc12), if_neg (fun q => q.elim hc18 (fun q => q.elim hc23 hc28))]), N0, e26⟩
theorem pn_0 : plainName "com/example/since/since/smv/KindComparesWithPinLaw" = true := by first | (simp [plainName, overriddenIn]; done) | decide +kernel
theorem pd0_0 : parseMethodDescriptor "(I)Lcom/example/since/since/smv/Kind;" = some ⟨[.int], some (.object "com/example/since/since/smv/Kind")⟩ := by decide +kernel
theorem pd0_1 : parseMethodDescriptor "(Lcom/example/since/since/smv/Kind;)Z" = some ⟨[(.object "com/example/since/since/smv/Kind")], some .boolean⟩ := by decide +kernel
theorem ef_0 (m : MethodId) (i0 : Int32) (i1 : Int32) : entryFrame m #[(.int i0), (.int i1)] maxLocals = mkF m 0 #[iv i0, iv i1, .unset, .unset, .unset, .unset, .unset, .unset] [] := by first | (simp [entryFrame, mkF, argsToLocals, Value.category, maxLocals]; done) | rfl
def Q0 (Z : State) (i0 : Int32) (i1 : Int32) (K : Nat → Addr) (h0 : Heap) (n0 : Nat) (v : Option Value) (h : Heap) (L : List Loc) : Prop := v = some (.int 1) ∧ Fr n0 L
set_option maxRecDepth 65536 in
set_option maxHeartbeats 40000000 in
theorem rm0 (l : Launch) (Z : State) (a0 : Array Value) (hw : ∀ d ∈ tables_1, d.before a0 Z = true) (ws : List Jvm.Cond) (i0 : Int32) (i1 : Int32) (K : Nat → Addr) (h0 : Heap) (n0 : Nat) (Z0 : n0 ≤ h0.size) (S_0 : Sta Z h0 "com/example/since/since/smv/Kind" "BOOLEAN" "Lcom/example/since/since/smv/Kind;" (.ref (K 0))) (S_1 : Sta Z h0 "com/example/since/since/smv/Kind" "INTEGER" "Lcom/example/since/since/smv/Kind;" (.ref (K 1))) (S_2 : Sta Z h0 "com/example/since/since/smv/Kind" "SYMBOLIC" "Lcom/example/since/since/smv/Kind;" (.ref (K 2))) (S_3 : Sta Z h0 "com/example/since/since/smv/Kind" "MIXED" "Lcom/example/since/since/smv/Kind;" (.ref (K 3))) (EK : ∀ n, n < 4 → Exa Z h0 (K n) "com/example/since/since/smv/Kind") (n01 : K 0 ≠ K 1) (n02 : K 0 ≠ K 2) (n03 : K 0 ≠ K 3) (n12 : K 1 ≠ K 2) (n13 : K 1 ≠ K 3) (n23 : K 2 ≠ K 3) :
    MetFree l x (head1 (Jvm.Cond.code x code maxLocals ret :: ws) room_1) (fun aX UX => aX = #[(.int i0), (.int i1)] ∧ Z.Warmed39 UX.vm ∧ UX.heap = h0) (fun _ _ _ _ _ => True) (fun _ UX oX UY => ∃ vX LX, oX = .returned vX ∧ Q0 Z i0 i1 K h0 n0 vX UY.heap LX ∧ FrameEnd UX oX UY LX 0 0) := by
  refine MetFree.of_bodySF (plainFor_of_name pn_0) hisR ?_
  intro p e s m args below meth c s₁ Bd hml0 hP hK
  obtain ⟨rfl, hZ, hh⟩ := hP
  have hx := Bd.exec
  have hby := Bd.bytes
  have hml : c.maxLocals = 8 := hml0
  have hown : s.vm.findClass "com/example/since/since/smv/KindComparesWithPinLaw" = some m.cls := findClass_of_methodNamed Bd.named
  have hnm := (name_of_methodNamed Bd.named Bd.method).1
  have X0 : Stand p l e room_1 s m #[(.int i0), (.int i1)] below meth c s₁ [] 0 0 := Stand.of_body Bd
  have e0 : s₁.heap = h0 := by rw [← hh, Bd.state]; rfl
  have N0 := Fr.nil n0
  have pre0 : ∀ t, Steps p.tables e below (s₁.setTop (mkF m 0 #[iv i0, iv i1, .unset, .unset, .unset, .unset, .unset, .unset] [])) t → Steps p.tables e below (s₁.setTop (entryFrame m #[(.int i0), (.int i1)] maxLocals)) t := fun t k => castTop (ef_0 m i0 i1) k
  obtain ⟨S0, hS0⟩ : ∃ z, z = (s₁.setTop (entryFrame m #[(.int i0), (.int i1)] maxLocals)) := ⟨_, rfl⟩
  rw [← hS0] at pre0
  have pre1 : ∀ t, own_s p e below s₁ m 3 #[iv i0, iv i1, .unset, .unset, .unset, .unset, .unset, .unset] [(.int (i0 &&& (3 : Int32)))] t → Steps p.tables e below S0 t := by
    intro tX kX
    refine pre0 _ ?_
    show own_s p e below s₁ m 0 #[iv i0, iv i1, .unset, .unset, .unset, .unset, .unset, .unset] [] _
    refine XS.iloadN X0.here hx rfl (hb hby at_0) rfl ?_
    show own_s p e below s₁ m 1 #[iv i0, iv i1, .unset, .unset, .unset, .unset, .unset, .unset] [(.int i0)] _
    refine XS.iconst X0.here hx rfl (hb hby at_1) ?_
    show own_s p e below s₁ m 2 #[iv i0, iv i1, .unset, .unset, .unset, .unset, .unset, .unset] [(.int (3 : Int32)), (.int i0)] _
    refine XS.iand X0.here hx rfl (hb hby at_2) rfl ?_
    exact kX
  obtain ⟨ii, hii⟩ : ∃ z : Int32, z = (i0 &&& (3 : Int32)) := ⟨_, rfl⟩
  rw [← hii] at pre1
  have bi : 0 ≤ ii.toInt ∧ ii.toInt ≤ 3 := by have := c_mask i0 3 2 (by decide) (by decide); rw [hii]; omega
  have pre2 : ∀ t, own_s p e below s₁ m 7 #[iv i0, iv i1, iv ii, .unset, .unset, .unset, .unset, .unset] [(.int (i1 &&& (3 : Int32)))] t → Steps p.tables e below S0 t := by
    intro tX kX
    refine pre1 _ ?_
    show own_s p e below s₁ m 3 #[iv i0, iv i1, .unset, .unset, .unset, .unset, .unset, .unset] [(.int ii)] _
    refine XS.istoreN X0.here hx rfl (hb hby at_3) rfl (l' := #[iv i0, iv i1, iv ii, .unset, .unset, .unset, .unset, .unset]) rfl ?_
    show own_s p e below s₁ m 4 #[iv i0, iv i1, iv ii, .unset, .unset, .unset, .unset, .unset] [] _
    refine XS.iloadN X0.here hx rfl (hb hby at_4) rfl ?_
    show own_s p e below s₁ m 5 #[iv i0, iv i1, iv ii, .unset, .unset, .unset, .unset, .unset] [(.int i1)] _
    refine XS.iconst X0.here hx rfl (hb hby at_5) ?_
    show own_s p e below s₁ m 6 #[iv i0, iv i1, iv ii, .unset, .unset, .unset, .unset, .unset] [(.int (3 : Int32)), (.int i1)] _
    refine XS.iand X0.here hx rfl (hb hby at_6) rfl ?_
    exact kX
  obtain ⟨jj, hjj⟩ : ∃ z : Int32, z = (i1 &&& (3 : Int32)) := ⟨_, rfl⟩
  rw [← hjj] at pre2
  have bj : 0 ≤ jj.toInt ∧ jj.toInt ≤ 3 := by have := c_mask i1 3 2 (by decide) (by decide); rw [hjj]; omega
  have pre3 : ∀ t, own_s p e below s₁ m 22 #[iv i0, iv i1, iv ii, iv jj, iv (60577 : Int32), .unset, .unset, .unset] [(.int (((60577 : Int32) >>> (((ii * (4 : Int32)) + jj) &&& 31)) &&& (1 : Int32)))] t → Steps p.tables e below S0 t := by
    intro tX kX
    refine pre2 _ ?_
    show own_s p e below s₁ m 7 #[iv i0, iv i1, iv ii, .unset, .unset, .unset, .unset, .unset] [(.int jj)] _
    refine XS.istoreN X0.here hx rfl (hb hby at_7) rfl (l' := #[iv i0, iv i1, iv ii, iv jj, .unset, .unset, .unset, .unset]) rfl ?_
    show own_s p e below s₁ m 8 #[iv i0, iv i1, iv ii, iv jj, .unset, .unset, .unset, .unset] [] _
    refine X0.ldcInt hx hown (mvT hZ (hw _ (List.mem_of_getElem? (i := 0) rfl))) (g := (mkF m 8 #[iv i0, iv i1, iv ii, iv jj, .unset, .unset, .unset, .unset] [])) rfl (hb hby at_8) _ ?_
    show own_s p e below s₁ m 10 #[iv i0, iv i1, iv ii, iv jj, .unset, .unset, .unset, .unset] [(.int (60577 : Int32))] _
    refine XS.istore X0.here hx rfl (hb hby at_10) rfl (l' := #[iv i0, iv i1, iv ii, iv jj, iv (60577 : Int32), .unset, .unset, .unset]) rfl ?_
    show own_s p e below s₁ m 12 #[iv i0, iv i1, iv ii, iv jj, iv (60577 : Int32), .unset, .unset, .unset] [] _
    refine XS.iload X0.here hx rfl (hb hby at_12) rfl ?_
    show own_s p e below s₁ m 14 #[iv i0, iv i1, iv ii, iv jj, iv (60577 : Int32), .unset, .unset, .unset] [(.int (60577 : Int32))] _
    refine XS.iloadN X0.here hx rfl (hb hby at_14) rfl ?_
    show own_s p e below s₁ m 15 #[iv i0, iv i1, iv ii, iv jj, iv (60577 : Int32), .unset, .unset, .unset] [(.int ii), (.int (60577 : Int32))] _
    refine XS.iconst X0.here hx rfl (hb hby at_15) ?_
    show own_s p e below s₁ m 16 #[iv i0, iv i1, iv ii, iv jj, iv (60577 : Int32), .unset, .unset, .unset] [(.int (4 : Int32)), (.int ii), (.int (60577 : Int32))] _
    refine XS.imul X0.here hx rfl (hb hby at_16) rfl ?_
    show own_s p e below s₁ m 17 #[iv i0, iv i1, iv ii, iv jj, iv (60577 : Int32), .unset, .unset, .unset] [(.int (ii * (4 : Int32))), (.int (60577 : Int32))] _
    refine XS.iloadN X0.here hx rfl (hb hby at_17) rfl ?_
    show own_s p e below s₁ m 18 #[iv i0, iv i1, iv ii, iv jj, iv (60577 : Int32), .unset, .unset, .unset] [(.int jj), (.int (ii * (4 : Int32))), (.int (60577 : Int32))] _
    refine XS.iadd X0.here hx rfl (hb hby at_18) rfl ?_
    show own_s p e below s₁ m 19 #[iv i0, iv i1, iv ii, iv jj, iv (60577 : Int32), .unset, .unset, .unset] [(.int ((ii * (4 : Int32)) + jj)), (.int (60577 : Int32))] _
    refine XS.ishr X0.here hx rfl (hb hby at_19) rfl ?_
    show own_s p e below s₁ m 20 #[iv i0, iv i1, iv ii, iv jj, iv (60577 : Int32), .unset, .unset, .unset] [(.int ((60577 : Int32) >>> (((ii * (4 : Int32)) + jj) &&& 31)))] _
    refine XS.iconst X0.here hx rfl (hb hby at_20) ?_
    show own_s p e below s₁ m 21 #[iv i0, iv i1, iv ii, iv jj, iv (60577 : Int32), .unset, .unset, .unset] [(.int (1 : Int32)), (.int ((60577 : Int32) >>> (((ii * (4 : Int32)) + jj) &&& 31)))] _
    refine XS.iand X0.here hx rfl (hb hby at_21) rfl ?_
    exact kX
  by_cases hc4 : (((60577 : Int32) >>> (((ii * (4 : Int32)) + jj) &&& 31)) &&& (1 : Int32)) = (0 : Int32)
  · skip
    have pre5 : ∀ t, own_s p e below s₁ m 33 #[iv i0, iv i1, iv ii, iv jj, iv (60577 : Int32), iv (0 : Int32), .unset, .unset] [(.int ii)] t → Steps p.tables e below S0 t := by
      intro tX kX
      refine pre3 _ ?_
      show own_s p e below s₁ m 22 #[iv i0, iv i1, iv ii, iv jj, iv (60577 : Int32), .unset, .unset, .unset] [(.int (((60577 : Int32) >>> (((ii * (4 : Int32)) + jj) &&& 31)) &&& (1 : Int32)))] _
      refine XS.ifYes X0.here hx rfl (pc0 := 22) (pc' := 29) rfl (hb hby at_22) rfl ((if0 _ _).trans (teq hc4).1) (by decide) (by decide) ?_
      show own_s p e below s₁ m 29 #[iv i0, iv i1, iv ii, iv jj, iv (60577 : Int32), .unset, .unset, .unset] [] _
      refine XS.iconst X0.here hx rfl (hb hby at_29) ?_
      show own_s p e below s₁ m 30 #[iv i0, iv i1, iv ii, iv jj, iv (60577 : Int32), .unset, .unset, .unset] [(.int (0 : Int32))] _
      refine XS.istore X0.here hx rfl (hb hby at_30) rfl (l' := #[iv i0, iv i1, iv ii, iv jj, iv (60577 : Int32), iv (0 : Int32), .unset, .unset]) rfl ?_
      show own_s p e below s₁ m 32 #[iv i0, iv i1, iv ii, iv jj, iv (60577 : Int32), iv (0 : Int32), .unset, .unset] [] _
      refine XS.iloadN X0.here hx rfl (hb hby at_32) rfl ?_
      exact kX
    obtain ⟨_, _, ⟨T6, L6, k6, n6⟩, -, X6, ⟨Lc6, hQ6, l6, y6, z6⟩, st6⟩ := Jvm.LawKit.callS X0 hx (y := (⟨"com/example/since/since/smv/KindComparesWithPinLaw", "kindOf", "(I)Lcom/example/since/since/smv/Kind;"⟩ : MethodName)) hown (mvT hZ (hw _ (List.mem_of_getElem? (i := 1) rfl))) (mvT hZ (hw _ (List.mem_of_getElem? (i := 2) rfl))) (mvT hZ (hw _ (List.mem_of_getElem? (i := 3) rfl))) (mvT hZ (hw _ (List.mem_of_getElem? (i := 4) rfl))) (by decide) (backOf (W := 0) (rm1 l Z a0 hw [] ii K h0 n0 Z0 S_0 S_1 S_2 S_3) hZ (hw _ (List.mem_of_getElem? (i := 4) rfl)) (hw _ (List.mem_of_getElem? (i := 3) rfl)) (by decide) (by decide)) (g := (mkF m 33 #[iv i0, iv i1, iv ii, iv jj, iv (60577 : Int32), iv (0 : Int32), .unset, .unset] [(.int ii)])) rfl (by rw [hml]; rfl) (argsL := [(.int ii)]) (rest := []) (lenOf pd0_0 rfl) rfl (by show 2 * 0 + _ ≤ _; exact Nat.le_of_eq rfl) (hb hby at_33) (fun _ _ => ⟨rfl, e0, (by decide : 0 + 0 ≤ _), (by decide : 0 + 0 ≤ _)⟩)
    dsimp only [Pt.U, Pt.locs, Pt.cells, Pt.slots] at X6 l6 y6 z6 st6 hQ6
    subst l6 y6 z6
    obtain ⟨rfl, Nq6, e6⟩ := hQ6
    have N6 := Fr.app N0 Nq6
    have pre7 : ∀ t, own_s p e below T6 m 36 #[iv i0, iv i1, iv ii, iv jj, iv (60577 : Int32), iv (0 : Int32), .unset, .unset] [(.ref (K (own_ki (ii).toInt)))] t → Steps p.tables e below S0 t := fun tX kX => pre5 _ (st6 _ kX)
    have pre8 : ∀ t, own_s p e below T6 m 39 #[iv i0, iv i1, iv ii, iv jj, iv (60577 : Int32), iv (0 : Int32), rv (K (own_ki (ii).toInt)), .unset] [(.int jj)] t → Steps p.tables e below S0 t := by
      intro tX kX
      refine pre7 _ ?_
      show own_s p e below T6 m 36 #[iv i0, iv i1, iv ii, iv jj, iv (60577 : Int32), iv (0 : Int32), .unset, .unset] [(.ref (K (own_ki (ii).toInt)))] _
      refine XS.astore X6.here hx rfl (hb hby at_36) rfl rfl (l' := #[iv i0, iv i1, iv ii, iv jj, iv (60577 : Int32), iv (0 : Int32), rv (K (own_ki (ii).toInt)), .unset]) rfl ?_
      show own_s p e below T6 m 38 #[iv i0, iv i1, iv ii, iv jj, iv (60577 : Int32), iv (0 : Int32), rv (K (own_ki (ii).toInt)), .unset] [] _
      refine XS.iloadN X6.here hx rfl (hb hby at_38) rfl ?_
      exact kX
    obtain ⟨_, _, ⟨T9, L9, k9, n9⟩, -, X9, ⟨Lc9, hQ9, l9, y9, z9⟩, st9⟩ := Jvm.LawKit.callS X6 hx (y := (⟨"com/example/since/since/smv/KindComparesWithPinLaw", "kindOf", "(I)Lcom/example/since/since/smv/Kind;"⟩ : MethodName)) hown (mvT hZ (hw _ (List.mem_of_getElem? (i := 1) rfl))) (mvT hZ (hw _ (List.mem_of_getElem? (i := 2) rfl))) (mvT hZ (hw _ (List.mem_of_getElem? (i := 3) rfl))) (mvT hZ (hw _ (List.mem_of_getElem? (i := 4) rfl))) (by decide) (backOf (W := 0) (rm1 l Z a0 hw [] jj K h0 n0 Z0 S_0 S_1 S_2 S_3) hZ (hw _ (List.mem_of_getElem? (i := 4) rfl)) (hw _ (List.mem_of_getElem? (i := 3) rfl)) (by decide) (by decide)) (g := (mkF m 39 #[iv i0, iv i1, iv ii, iv jj, iv (60577 : Int32), iv (0 : Int32), rv (K (own_ki (ii).toInt)), .unset] [(.int jj)])) rfl (by rw [hml]; rfl) (argsL := [(.int jj)]) (rest := []) (lenOf pd0_0 rfl) rfl (by show 2 * 0 + _ ≤ _; exact Nat.le_of_eq rfl) (hb hby at_39) (fun _ _ => ⟨rfl, e6, (by decide : 0 + 0 ≤ _), (by decide : 0 + 0 ≤ _)⟩)
    dsimp only [Pt.U, Pt.locs, Pt.cells, Pt.slots] at X9 l9 y9 z9 st9 hQ9
    subst l9 y9 z9
    obtain ⟨rfl, Nq9, e9⟩ := hQ9
    have N9 := Fr.app N6 Nq9
    have pre10 : ∀ t, own_s p e below T9 m 42 #[iv i0, iv i1, iv ii, iv jj, iv (60577 : Int32), iv (0 : Int32), rv (K (own_ki (ii).toInt)), .unset] [(.ref (K (own_ki (jj).toInt)))] t → Steps p.tables e below S0 t := fun tX kX => pre8 _ (st9 _ kX)
    have ER : Exa Z h0 (K (own_ki (ii).toInt)) "com/example/since/since/smv/Kind" := EK _ (own_ki4 _)
    have pre11 : ∀ t, own_s p e below T9 m 48 #[iv i0, iv i1, iv ii, iv jj, iv (60577 : Int32), iv (0 : Int32), rv (K (own_ki (ii).toInt)), rv (K (own_ki (jj).toInt))] [(.ref (K (own_ki (jj).toInt))), (.ref (K (own_ki (ii).toInt)))] t → Steps p.tables e below S0 t := by
      intro tX kX
      refine pre10 _ ?_
      show own_s p e below T9 m 42 #[iv i0, iv i1, iv ii, iv jj, iv (60577 : Int32), iv (0 : Int32), rv (K (own_ki (ii).toInt)), .unset] [(.ref (K (own_ki (jj).toInt)))] _
      refine XS.astore X9.here hx rfl (hb hby at_42) rfl rfl (l' := #[iv i0, iv i1, iv ii, iv jj, iv (60577 : Int32), iv (0 : Int32), rv (K (own_ki (ii).toInt)), rv (K (own_ki (jj).toInt))]) rfl ?_
      show own_s p e below T9 m 44 #[iv i0, iv i1, iv ii, iv jj, iv (60577 : Int32), iv (0 : Int32), rv (K (own_ki (ii).toInt)), rv (K (own_ki (jj).toInt))] [] _
      refine XS.aload X9.here hx rfl (hb hby at_44) rfl rfl ?_
      show own_s p e below T9 m 46 #[iv i0, iv i1, iv ii, iv jj, iv (60577 : Int32), iv (0 : Int32), rv (K (own_ki (ii).toInt)), rv (K (own_ki (jj).toInt))] [(.ref (K (own_ki (ii).toInt)))] _
      refine XS.aload X9.here hx rfl (hb hby at_46) rfl rfl ?_
      exact kX
    obtain ⟨cq12, kq12, q12a, q12b, q12c⟩ := isOf hZ e9 ER
    obtain ⟨_, _, ⟨T12, L12, k12, n12⟩, -, X12, ⟨Lc12, hQ12, l12, y12, z12⟩, st12⟩ := X9.virtualBack hx (y := (⟨"com/example/since/since/smv/Kind", "comparesWith", "(Lcom/example/since/since/smv/Kind;)Z"⟩ : MethodName)) (z := (⟨"com/example/since/since/smv/Kind", "comparesWith", "(Lcom/example/since/since/smv/Kind;)Z"⟩ : MethodName)) hown (mvT hZ (hw _ (List.mem_of_getElem? (i := 10) rfl))) (mvT hZ (hw _ (List.mem_of_getElem? (i := 11) rfl))) (notFace_of_selects (args := #[]) (mvT hZ (hw _ (List.mem_of_getElem? (i := 13) rfl)))) (mvT hZ (hw _ (List.mem_of_getElem? (i := 13) rfl))) (mvT hZ (hw _ (List.mem_of_getElem? (i := 12) rfl))) (by decide) (backOf (W := 0) (rm2 l Z a0 hw [] (K (own_ki (ii).toInt)) (K (own_ki (jj).toInt)) K h0 n0 Z0 S_0 S_1 S_2 S_3) hZ (hw _ (List.mem_of_getElem? (i := 14) rfl)) (hw _ (List.mem_of_getElem? (i := 6) rfl)) (by decide) (by decide)) q12a q12c (g := (mkF m 48 #[iv i0, iv i1, iv ii, iv jj, iv (60577 : Int32), iv (0 : Int32), rv (K (own_ki (ii).toInt)), rv (K (own_ki (jj).toInt))] [(.ref (K (own_ki (jj).toInt))), (.ref (K (own_ki (ii).toInt)))])) rfl (by rw [hml]; rfl) (Steps.refl _) (argsL := [(.ref (K (own_ki (jj).toInt)))]) (rest := []) (lenOf pd0_1 rfl) rfl (by show 2 * 0 + _ ≤ _; exact Nat.le_of_eq rfl) (hb hby at_48) (fun _ _ => ⟨rfl, e9, (by decide : 0 + 0 ≤ _), (by decide : 0 + 0 ≤ _)⟩)
    dsimp only [Pt.U, Pt.locs, Pt.cells, Pt.slots] at X12 l12 y12 z12 st12 hQ12
    subst l12 y12 z12
    obtain ⟨rfl, Nq12, e12⟩ := hQ12
    have N12 := Fr.app N9 Nq12
    have pre13 : ∀ t, own_s p e below T12 m 51 #[iv i0, iv i1, iv ii, iv jj, iv (60577 : Int32), iv (0 : Int32), rv (K (own_ki (ii).toInt)), rv (K (own_ki (jj).toInt))] [(.int (own_cw K (K (own_ki (ii).toInt)) (K (own_ki (jj).toInt))))] t → Steps p.tables e below S0 t := fun tX kX => pre11 _ (st12.trans kX)
    have pre14 : ∀ t, own_s p e below T12 m 61 #[iv i0, iv i1, iv ii, iv jj, iv (60577 : Int32), iv (0 : Int32), rv (K (own_ki (ii).toInt)), rv (K (own_ki (jj).toInt))] [(.int (1 : Int32))] t → Steps p.tables e below S0 t := by
      intro tX kX
      refine pre13 _ ?_
      show own_s p e below T12 m 51 #[iv i0, iv i1, iv ii, iv jj, iv (60577 : Int32), iv (0 : Int32), rv (K (own_ki (ii).toInt)), rv (K (own_ki (jj).toInt))] [(.int (own_cw K (K (own_ki (ii).toInt)) (K (own_ki (jj).toInt))))] _
      refine XS.iload X12.here hx rfl (hb hby at_51) rfl ?_
      show own_s p e below T12 m 53 #[iv i0, iv i1, iv ii, iv jj, iv (60577 : Int32), iv (0 : Int32), rv (K (own_ki (ii).toInt)), rv (K (own_ki (jj).toInt))] [(.int (0 : Int32)), (.int (own_cw K (K (own_ki (ii).toInt)) (K (own_ki (jj).toInt))))] _
      refine XS.icmpNo X12.here hx rfl (hb hby at_53) rfl (teq ((own_tab n01 n02 n03 n12 n13 n23 bi bj).trans (if_pos hc4))).2 ?_
      show own_s p e below T12 m 56 #[iv i0, iv i1, iv ii, iv jj, iv (60577 : Int32), iv (0 : Int32), rv (K (own_ki (ii).toInt)), rv (K (own_ki (jj).toInt))] [] _
      refine XS.iconst X12.here hx rfl (hb hby at_56) ?_
      show own_s p e below T12 m 57 #[iv i0, iv i1, iv ii, iv jj, iv (60577 : Int32), iv (0 : Int32), rv (K (own_ki (ii).toInt)), rv (K (own_ki (jj).toInt))] [(.int (1 : Int32))] _
      refine XS.goto X12.here hx rfl (pc0 := 57) (pc' := 61) rfl (hb hby at_57) (by decide) (by decide) ?_
      exact kX
    subst hS0
    obtain ⟨fs, hr, hrun, hended, hW, hsame⟩ := X12.leave (v := (some (.int (1 : Int32)))) (fun h => by rw [Bd.returns] at h; cases h)
    refine ⟨_, _, pre14 _ (retN X12 hx (t := .boolean) Bd.returns (by simp) (hb hby at_61) hr), hrun, hended, _, _, rfl, ?_, ⟨_, rfl⟩, hW, hsame.mono (by decide) (by decide)⟩
    show Q0 Z i0 i1 K h0 n0 (some (.int (1 : Int32))) T12.heap _
    exact ⟨rfl, N12⟩
  · skip
    have pre15 : ∀ t, own_s p e below s₁ m 33 #[iv i0, iv i1, iv ii, iv jj, iv (60577 : Int32), iv (1 : Int32), .unset, .unset] [(.int ii)] t → Steps p.tables e below S0 t := by
      intro tX kX
      refine pre3 _ ?_
      show own_s p e below s₁ m 22 #[iv i0, iv i1, iv ii, iv jj, iv (60577 : Int32), .unset, .unset, .unset] [(.int (((60577 : Int32) >>> (((ii * (4 : Int32)) + jj) &&& 31)) &&& (1 : Int32)))] _
      refine XS.ifNo X0.here hx rfl (hb hby at_22) rfl ((if0 _ _).trans (feq hc4).1) ?_
      show own_s p e below s₁ m 25 #[iv i0, iv i1, iv ii, iv jj, iv (60577 : Int32), .unset, .unset, .unset] [] _
      refine XS.iconst X0.here hx rfl (hb hby at_25) ?_
      show own_s p e below s₁ m 26 #[iv i0, iv i1, iv ii, iv jj, iv (60577 : Int32), .unset, .unset, .unset] [(.int (1 : Int32))] _
      refine XS.goto X0.here hx rfl (pc0 := 26) (pc' := 30) rfl (hb hby at_26) (by decide) (by decide) ?_
      show own_s p e below s₁ m 30 #[iv i0, iv i1, iv ii, iv jj, iv (60577 : Int32), .unset, .unset, .unset] [(.int (1 : Int32))] _
      refine XS.istore X0.here hx rfl (hb hby at_30) rfl (l' := #[iv i0, iv i1, iv ii, iv jj, iv (60577 : Int32), iv (1 : Int32), .unset, .unset]) rfl ?_
      show own_s p e below s₁ m 32 #[iv i0, iv i1, iv ii, iv jj, iv (60577 : Int32), iv (1 : Int32), .unset, .unset] [] _
      refine XS.iloadN X0.here hx rfl (hb hby at_32) rfl ?_
      exact kX
    obtain ⟨_, _, ⟨T16, L16, k16, n16⟩, -, X16, ⟨Lc16, hQ16, l16, y16, z16⟩, st16⟩ := Jvm.LawKit.callS X0 hx (y := (⟨"com/example/since/since/smv/KindComparesWithPinLaw", "kindOf", "(I)Lcom/example/since/since/smv/Kind;"⟩ : MethodName)) hown (mvT hZ (hw _ (List.mem_of_getElem? (i := 1) rfl))) (mvT hZ (hw _ (List.mem_of_getElem? (i := 2) rfl))) (mvT hZ (hw _ (List.mem_of_getElem? (i := 3) rfl))) (mvT hZ (hw _ (List.mem_of_getElem? (i := 4) rfl))) (by decide) (backOf (W := 0) (rm1 l Z a0 hw [] ii K h0 n0 Z0 S_0 S_1 S_2 S_3) hZ (hw _ (List.mem_of_getElem? (i := 4) rfl)) (hw _ (List.mem_of_getElem? (i := 3) rfl)) (by decide) (by decide)) (g := (mkF m 33 #[iv i0, iv i1, iv ii, iv jj, iv (60577 : Int32), iv (1 : Int32), .unset, .unset] [(.int ii)])) rfl (by rw [hml]; rfl) (argsL := [(.int ii)]) (rest := []) (lenOf pd0_0 rfl) rfl (by show 2 * 0 + _ ≤ _; exact Nat.le_of_eq rfl) (hb hby at_33) (fun _ _ => ⟨rfl, e0, (by decide : 0 + 0 ≤ _), (by decide : 0 + 0 ≤ _)⟩)
    dsimp only [Pt.U, Pt.locs, Pt.cells, Pt.slots] at X16 l16 y16 z16 st16 hQ16
    subst l16 y16 z16
    obtain ⟨rfl, Nq16, e16⟩ := hQ16
    have N16 := Fr.app N0 Nq16
    have pre17 : ∀ t, own_s p e below T16 m 36 #[iv i0, iv i1, iv ii, iv jj, iv (60577 : Int32), iv (1 : Int32), .unset, .unset] [(.ref (K (own_ki (ii).toInt)))] t → Steps p.tables e below S0 t := fun tX kX => pre15 _ (st16 _ kX)
    have pre18 : ∀ t, own_s p e below T16 m 39 #[iv i0, iv i1, iv ii, iv jj, iv (60577 : Int32), iv (1 : Int32), rv (K (own_ki (ii).toInt)), .unset] [(.int jj)] t → Steps p.tables e below S0 t := by
      intro tX kX
      refine pre17 _ ?_
      show own_s p e below T16 m 36 #[iv i0, iv i1, iv ii, iv jj, iv (60577 : Int32), iv (1 : Int32), .unset, .unset] [(.ref (K (own_ki (ii).toInt)))] _
      refine XS.astore X16.here hx rfl (hb hby at_36) rfl rfl (l' := #[iv i0, iv i1, iv ii, iv jj, iv (60577 : Int32), iv (1 : Int32), rv (K (own_ki (ii).toInt)), .unset]) rfl ?_
      show own_s p e below T16 m 38 #[iv i0, iv i1, iv ii, iv jj, iv (60577 : Int32), iv (1 : Int32), rv (K (own_ki (ii).toInt)), .unset] [] _
      refine XS.iloadN X16.here hx rfl (hb hby at_38) rfl ?_
      exact kX
    obtain ⟨_, _, ⟨T19, L19, k19, n19⟩, -, X19, ⟨Lc19, hQ19, l19, y19, z19⟩, st19⟩ := Jvm.LawKit.callS X16 hx (y := (⟨"com/example/since/since/smv/KindComparesWithPinLaw", "kindOf", "(I)Lcom/example/since/since/smv/Kind;"⟩ : MethodName)) hown (mvT hZ (hw _ (List.mem_of_getElem? (i := 1) rfl))) (mvT hZ (hw _ (List.mem_of_getElem? (i := 2) rfl))) (mvT hZ (hw _ (List.mem_of_getElem? (i := 3) rfl))) (mvT hZ (hw _ (List.mem_of_getElem? (i := 4) rfl))) (by decide) (backOf (W := 0) (rm1 l Z a0 hw [] jj K h0 n0 Z0 S_0 S_1 S_2 S_3) hZ (hw _ (List.mem_of_getElem? (i := 4) rfl)) (hw _ (List.mem_of_getElem? (i := 3) rfl)) (by decide) (by decide)) (g := (mkF m 39 #[iv i0, iv i1, iv ii, iv jj, iv (60577 : Int32), iv (1 : Int32), rv (K (own_ki (ii).toInt)), .unset] [(.int jj)])) rfl (by rw [hml]; rfl) (argsL := [(.int jj)]) (rest := []) (lenOf pd0_0 rfl) rfl (by show 2 * 0 + _ ≤ _; exact Nat.le_of_eq rfl) (hb hby at_39) (fun _ _ => ⟨rfl, e16, (by decide : 0 + 0 ≤ _), (by decide : 0 + 0 ≤ _)⟩)
    dsimp only [Pt.U, Pt.locs, Pt.cells, Pt.slots] at X19 l19 y19 z19 st19 hQ19
    subst l19 y19 z19
    obtain ⟨rfl, Nq19, e19⟩ := hQ19
    have N19 := Fr.app N16 Nq19
    have pre20 : ∀ t, own_s p e below T19 m 42 #[iv i0, iv i1, iv ii, iv jj, iv (60577 : Int32), iv (1 : Int32), rv (K (own_ki (ii).toInt)), .unset] [(.ref (K (own_ki (jj).toInt)))] t → Steps p.tables e below S0 t := fun tX kX => pre18 _ (st19 _ kX)
    have ER : Exa Z h0 (K (own_ki (ii).toInt)) "com/example/since/since/smv/Kind" := EK _ (own_ki4 _)
    have pre21 : ∀ t, own_s p e below T19 m 48 #[iv i0, iv i1, iv ii, iv jj, iv (60577 : Int32), iv (1 : Int32), rv (K (own_ki (ii).toInt)), rv (K (own_ki (jj).toInt))] [(.ref (K (own_ki (jj).toInt))), (.ref (K (own_ki (ii).toInt)))] t → Steps p.tables e below S0 t := by
      intro tX kX
      refine pre20 _ ?_
      show own_s p e below T19 m 42 #[iv i0, iv i1, iv ii, iv jj, iv (60577 : Int32), iv (1 : Int32), rv (K (own_ki (ii).toInt)), .unset] [(.ref (K (own_ki (jj).toInt)))] _
      refine XS.astore X19.here hx rfl (hb hby at_42) rfl rfl (l' := #[iv i0, iv i1, iv ii, iv jj, iv (60577 : Int32), iv (1 : Int32), rv (K (own_ki (ii).toInt)), rv (K (own_ki (jj).toInt))]) rfl ?_
      show own_s p e below T19 m 44 #[iv i0, iv i1, iv ii, iv jj, iv (60577 : Int32), iv (1 : Int32), rv (K (own_ki (ii).toInt)), rv (K (own_ki (jj).toInt))] [] _
      refine XS.aload X19.here hx rfl (hb hby at_44) rfl rfl ?_
      show own_s p e below T19 m 46 #[iv i0, iv i1, iv ii, iv jj, iv (60577 : Int32), iv (1 : Int32), rv (K (own_ki (ii).toInt)), rv (K (own_ki (jj).toInt))] [(.ref (K (own_ki (ii).toInt)))] _
      refine XS.aload X19.here hx rfl (hb hby at_46) rfl rfl ?_
      exact kX
    obtain ⟨cq22, kq22, q22a, q22b, q22c⟩ := isOf hZ e19 ER
    obtain ⟨_, _, ⟨T22, L22, k22, n22⟩, -, X22, ⟨Lc22, hQ22, l22, y22, z22⟩, st22⟩ := X19.virtualBack hx (y := (⟨"com/example/since/since/smv/Kind", "comparesWith", "(Lcom/example/since/since/smv/Kind;)Z"⟩ : MethodName)) (z := (⟨"com/example/since/since/smv/Kind", "comparesWith", "(Lcom/example/since/since/smv/Kind;)Z"⟩ : MethodName)) hown (mvT hZ (hw _ (List.mem_of_getElem? (i := 10) rfl))) (mvT hZ (hw _ (List.mem_of_getElem? (i := 11) rfl))) (notFace_of_selects (args := #[]) (mvT hZ (hw _ (List.mem_of_getElem? (i := 13) rfl)))) (mvT hZ (hw _ (List.mem_of_getElem? (i := 13) rfl))) (mvT hZ (hw _ (List.mem_of_getElem? (i := 12) rfl))) (by decide) (backOf (W := 0) (rm2 l Z a0 hw [] (K (own_ki (ii).toInt)) (K (own_ki (jj).toInt)) K h0 n0 Z0 S_0 S_1 S_2 S_3) hZ (hw _ (List.mem_of_getElem? (i := 14) rfl)) (hw _ (List.mem_of_getElem? (i := 6) rfl)) (by decide) (by decide)) q22a q22c (g := (mkF m 48 #[iv i0, iv i1, iv ii, iv jj, iv (60577 : Int32), iv (1 : Int32), rv (K (own_ki (ii).toInt)), rv (K (own_ki (jj).toInt))] [(.ref (K (own_ki (jj).toInt))), (.ref (K (own_ki (ii).toInt)))])) rfl (by rw [hml]; rfl) (Steps.refl _) (argsL := [(.ref (K (own_ki (jj).toInt)))]) (rest := []) (lenOf pd0_1 rfl) rfl (by show 2 * 0 + _ ≤ _; exact Nat.le_of_eq rfl) (hb hby at_48) (fun _ _ => ⟨rfl, e19, (by decide : 0 + 0 ≤ _), (by decide : 0 + 0 ≤ _)⟩)
    dsimp only [Pt.U, Pt.locs, Pt.cells, Pt.slots] at X22 l22 y22 z22 st22 hQ22
    subst l22 y22 z22
    obtain ⟨rfl, Nq22, e22⟩ := hQ22
    have N22 := Fr.app N19 Nq22
    have pre23 : ∀ t, own_s p e below T22 m 51 #[iv i0, iv i1, iv ii, iv jj, iv (60577 : Int32), iv (1 : Int32), rv (K (own_ki (ii).toInt)), rv (K (own_ki (jj).toInt))] [(.int (own_cw K (K (own_ki (ii).toInt)) (K (own_ki (jj).toInt))))] t → Steps p.tables e below S0 t := fun tX kX => pre21 _ (st22.trans kX)
    have pre24 : ∀ t, own_s p e below T22 m 61 #[iv i0, iv i1, iv ii, iv jj, iv (60577 : Int32), iv (1 : Int32), rv (K (own_ki (ii).toInt)), rv (K (own_ki (jj).toInt))] [(.int (1 : Int32))] t → Steps p.tables e below S0 t := by
      intro tX kX
      refine pre23 _ ?_
      show own_s p e below T22 m 51 #[iv i0, iv i1, iv ii, iv jj, iv (60577 : Int32), iv (1 : Int32), rv (K (own_ki (ii).toInt)), rv (K (own_ki (jj).toInt))] [(.int (own_cw K (K (own_ki (ii).toInt)) (K (own_ki (jj).toInt))))] _
      refine XS.iload X22.here hx rfl (hb hby at_51) rfl ?_
      show own_s p e below T22 m 53 #[iv i0, iv i1, iv ii, iv jj, iv (60577 : Int32), iv (1 : Int32), rv (K (own_ki (ii).toInt)), rv (K (own_ki (jj).toInt))] [(.int (1 : Int32)), (.int (own_cw K (K (own_ki (ii).toInt)) (K (own_ki (jj).toInt))))] _
      refine XS.icmpNo X22.here hx rfl (hb hby at_53) rfl (teq ((own_tab n01 n02 n03 n12 n13 n23 bi bj).trans (if_neg hc4))).2 ?_
      show own_s p e below T22 m 56 #[iv i0, iv i1, iv ii, iv jj, iv (60577 : Int32), iv (1 : Int32), rv (K (own_ki (ii).toInt)), rv (K (own_ki (jj).toInt))] [] _
      refine XS.iconst X22.here hx rfl (hb hby at_56) ?_
      show own_s p e below T22 m 57 #[iv i0, iv i1, iv ii, iv jj, iv (60577 : Int32), iv (1 : Int32), rv (K (own_ki (ii).toInt)), rv (K (own_ki (jj).toInt))] [(.int (1 : Int32))] _
      refine XS.goto X22.here hx rfl (pc0 := 57) (pc' := 61) rfl (hb hby at_57) (by decide) (by decide) ?_
      exact kX
    subst hS0
    obtain ⟨fs, hr, hrun, hended, hW, hsame⟩ := X22.leave (v := (some (.int (1 : Int32)))) (fun h => by rw [Bd.returns] at h; cases h)
    refine ⟨_, _, pre24 _ (retN X22 hx (t := .boolean) Bd.returns (by simp) (hb hby at_61) hr), hrun, hended, _, _, rfl, ?_, ⟨_, rfl⟩, hW, hsame.mono (by decide) (by decide)⟩
    show Q0 Z i0 i1 K h0 n0 (some (.int (1 : Int32))) T22.heap _
    exact ⟨rfl, N22⟩
set_option maxRecDepth 65536 in
set_option maxHeartbeats 40000000 in
theorem comes_1 {Post : Tables → Env → Array Value → State → Outcome → State → Prop} (hpost : ∀ tb e args s v u, (limb_1_1.after args s (.returned v) u = true ∧ limb_1_2.after args s (.returned v) u = true ∧ True) → FrameEnd s (.returned v) u (Jvm.fieldLocs frame_1_writes args s ++ Jvm.arrayLocs frame_1_arrays args s ++ Jvm.staticLocs frame_1_statics s) 0 0 → Post tb e args s (.returned v) u) :
    ArmFor flags0 classFile x code maxLocals ret World_1 tables_1 room_1 Calls_1 rest_1 Pre_1 Post := by
  intro l hfl _ _ p e ha hc hk s m args below hf hA hF happ hP
  obtain ⟨hcalls, hrest, hpre⟩ := hP
  obtain ⟨-, -, -, hnamed, -, -, -, hat⟩ := (Spec.applies_iff hf).mp happ
  obtain ⟨hg, hn⟩ := and_e (Cond.before_iff.mp (show (Jvm.Cond.and given_1 narrow_1).before args s = true from hpre))
  obtain ⟨hcnt, q0⟩ := and_e hg
  obtain ⟨ha0, q1⟩ := and_e q0
  have ha1 := q1
  obtain ⟨w0, w1, rfl⟩ : ∃ w0 w1 : Value, args = #[w0, w1] := by
    have hs : args.size = 2 := by simpa [Cond.value, given_1] using hcnt
    obtain ⟨L⟩ := args
    match L, hs with
    | [w0, w1], _ => exact ⟨w0, w1, rfl⟩
  have hw := fun d (hd : d ∈ tables_1) => atoms_spec (ws := Jvm.Cond.code x code maxLocals ret :: tables_1) hat d (List.mem_cons_of_mem _ hd)
  have hfit : Fit s := fun {y c} hc i hi => by
    obtain ⟨ha, rfl⟩ := Array.getElem?_eq_some_iff.mp hc
    have q := List.all_eq_true.mp ((Array.all_eq_true_iff_forall_mem.mp hF) _ (Array.getElem_mem ha)) i (List.mem_range.mpr hi)
    simpa [Array.getElem?_eq_getElem hi] using q
  obtain ⟨i0, ei0⟩ := is_v ha0
  obtain rfl : w0 = (.int i0) := Option.some.inj ei0
  obtain ⟨i1, ei1⟩ := is_v ha1
  obtain rfl : w1 = (.int i1) := Option.some.inj ei1
  obtain ⟨nL1, nR1⟩ := and_e hn
  obtain ⟨k_BOOLEAN, ev_BOOLEAN⟩ := exa_v nL1
  have S_BOOLEAN := Sta.start ev_BOOLEAN (Or.inr ⟨(hw _ (List.mem_of_getElem? (i := 6) rfl)), (hw _ (List.mem_of_getElem? (i := 7) rfl))⟩)
  have X_BOOLEAN := Exa.start ev_BOOLEAN nL1
  obtain ⟨nL2, nR2⟩ := and_e nR1
  obtain ⟨k_MIXED, ev_MIXED⟩ := exa_v nL2
  have S_MIXED := Sta.start ev_MIXED (Or.inr ⟨(hw _ (List.mem_of_getElem? (i := 6) rfl)), (hw _ (List.mem_of_getElem? (i := 9) rfl))⟩)
  have X_MIXED := Exa.start ev_MIXED nL2
  obtain ⟨nL3, nR3⟩ := and_e nR2
  obtain ⟨nL4, nR4⟩ := and_e nR3
  obtain ⟨nL5, nR5⟩ := and_e nR4
  obtain ⟨k_SYMBOLIC, ev_SYMBOLIC⟩ := exa_v nL5
  have S_SYMBOLIC := Sta.start ev_SYMBOLIC (Or.inr ⟨(hw _ (List.mem_of_getElem? (i := 6) rfl)), (hw _ (List.mem_of_getElem? (i := 17) rfl))⟩)
  have X_SYMBOLIC := Exa.start ev_SYMBOLIC nL5
  obtain ⟨nL6, nR6⟩ := and_e nR5
  obtain ⟨k_INTEGER, ev_INTEGER⟩ := exa_v nL6
  have S_INTEGER := Sta.start ev_INTEGER (Or.inr ⟨(hw _ (List.mem_of_getElem? (i := 6) rfl)), (hw _ (List.mem_of_getElem? (i := 19) rfl))⟩)
  have X_INTEGER := Exa.start ev_INTEGER nL6
  obtain ⟨nL7, nR7⟩ := and_e nR6
  have O_BOOLEAN := Fld.start (own_fe ev_BOOLEAN nL3)
  have O_MIXED := Fld.start (own_fe ev_MIXED nL4)
  have O_SYMBOLIC := Fld.start (own_fe ev_SYMBOLIC nL7)
  have O_INTEGER := Fld.start (own_fe ev_INTEGER nR7)
  have EK : ∀ n, n < 4 → Exa s s.heap ((fun i => match i with | 0 => k_BOOLEAN | 1 => k_INTEGER | 2 => k_SYMBOLIC | _ => k_MIXED : Nat → Addr) n) "com/example/since/since/smv/Kind" := fun n _ => match n with | 0 => X_BOOLEAN | 1 => X_INTEGER | 2 => X_SYMBOLIC | _ + 3 => X_MIXED
  obtain ⟨n, o, h1, h2, h3, _, L, rfl, ⟨rfl, N⟩, hq⟩ := rm0 l s _ hw tables_1 i0 i1 (fun i => match i with | 0 => k_BOOLEAN | 1 => k_INTEGER | 2 => k_SYMBOLIC | _ => k_MIXED) s.heap s.heap.size (Nat.le_refl _) S_BOOLEAN S_INTEGER S_SYMBOLIC S_MIXED EK (O_BOOLEAN.ne O_INTEGER (by decide)) (O_BOOLEAN.ne O_SYMBOLIC (by decide)) (O_BOOLEAN.ne O_MIXED (by decide)) (O_INTEGER.ne O_SYMBOLIC (by decide)) (O_INTEGER.ne O_MIXED (by decide)) (O_SYMBOLIC.ne O_MIXED (by decide)) p e ha hc hk s m _ below hf ((Spec.applies_iff_loose hf).mp happ).1 ⟨rfl, State.Warmed39.refl s, rfl⟩ trivial
  refine ⟨n, _, h1, h2, h3, hpost _ _ _ _ _ _ ⟨Cond.after_iff.mpr rfl, Cond.after_iff.mpr (eq_i res_at (Term.int_eval (1)) rfl), trivial⟩ ⟨hq.1, hq.2.1, (hq.2.2.sift fun y hy => Or.inr (N y hy)).mono (by decide) (by decide)⟩⟩
theorem main_1_1 : Claimed_1_1 := comes_1 fun _ _ _ _ _ _ h hF => ⟨h.1, hF⟩
theorem main_1_2 : Claimed_1_2 := comes_1 fun _ _ _ _ _ _ h hF => ⟨h.2.1, hF⟩
end Jvm.Pilot.@@N@@
namespace Jvm.Pilot.@@N@@
open Jvm Jvm.ClassFile Sem Op Lib Jvm.Free Jvm.Stand Jvm.Pilot.@@N@@.Jvm.D
/-! MADE BY PROGRAM (witnessworld.py) out of the Statement's table words and the real class files: 12 classes; the members and pool entries that the words name. The judged class is class 1, her method 2. -/
namespace start1
open Jvm.ClassFile
def u (s : String) : CpInfo := .utf8 (stringToUtf16 s)
/-- a pool by its gaps: so many unusable entries, then the entry; so many at the end -/
def gap : Nat → List CpInfo → List CpInfo
  | 0, r => r
  | n + 1, r => .unusable :: gap n r
def poolList (es : List (Nat × CpInfo)) (last : Nat) : List CpInfo := es.foldr (fun e r => gap e.1 (e.2 :: r)) (gap last [])
def pool (es : List (Nat × CpInfo)) (last : Nat) : Array CpInfo := ⟨poolList es last⟩
def fileOf (pool : Array CpInfo) (this : Nat) (attrs : Array Attribute := #[]) (ms : Array MethodInfo := #[]) (fl : Nat := 33) (sup : Nat := 0) (ifs : Array Nat := #[]) (fds : Array FieldInfo := #[]) : ClassFile where
  minorVersion := 0
  majorVersion := 65
  constantPool := pool
  accessFlags := fl
  thisClass := this
  superClass := sup
  interfaces := ifs
  fields := fds
  methods := ms
  attributes := attrs
def plain (name : String) (sup : Option ClassId) : Class where
  name := name
  kind := .ordinary
  loader := none
  accessFlags := 33
  super := sup
  interfaces := #[]
  cf := none
  fields := #[]
  methods := #[]
  instanceTypes := #[]
  staticTypes := #[]
  resolved := #[]
  callSites := []
  init := .initialized
  statics := none
  mirror := none

def pool0 : Array CpInfo := pool [(5, u "<init>"), (0, u "()V"), (1, .class_ 10), (1, u "java/lang/Object")] 113

def k0m0 : Method := { name := "<init>", desc := "()V", sig := { parameters := [], returnType := none }, accessFlags := 1, code := none }
/-- java/lang/Object -/
def k0 : Class := { plain "java/lang/Object" none with
  accessFlags := 33
  interfaces := #[]
  cf := some (fileOf pool0 8 #[] #[{ accessFlags := 1, nameIndex := 5, descriptorIndex := 6, attributes := #[] }] 33 0 #[] #[])
  fields := #[]
  methods := #[k0m0]
  instanceTypes := #[]
  staticTypes := #[]
  resolved := Array.replicate 124 none
  statics := none }

def pool1 : Array CpInfo := pool [(2, .class_ 4), (1, u "java/lang/Object"), (0, u "<init>"), (0, u "()V"), (0, .fieldref 8 9), (0, .class_ 10), (0, .nameAndType 11 12), (0, u "com/example/since/since/smv/Kind"), (0, u "BOOLEAN"), (0, u "Lcom/example/since/since/smv/Kind;"), (0, .fieldref 8 14), (0, .nameAndType 15 12), (0, u "INTEGER"), (0, .fieldref 8 17), (0, .nameAndType 18 12), (0, u "SYMBOLIC"), (0, .fieldref 8 20), (0, .nameAndType 21 12), (0, u "MIXED"), (0, .integer 60577), (0, .methodref 24 25), (0, .class_ 26), (0, .nameAndType 27 28), (0, u "com/example/since/since/smv/KindComparesWithPinLaw"), (0, u "kindOf"), (0, u "(I)Lcom/example/since/since/smv/Kind;"), (0, .methodref 8 30), (0, .nameAndType 31 32), (0, u "comparesWith"), (0, u "(Lcom/example/since/since/smv/Kind;)Z"), (3, u "law"), (0, u "(II)Z")] 2

def k1m0 : Method := { name := "<init>", desc := "()V", sig := { parameters := [], returnType := none }, accessFlags := 2, code := none }
def k1c1 : Code := { maxStack := 2, maxLocals := 1, code := method_2_code, exceptionTable := #[], attributes := #[] }
def k1m1 : Method := { name := "kindOf", desc := "(I)Lcom/example/since/since/smv/Kind;", sig := { parameters := [.int], returnType := some (.object "com/example/since/since/smv/Kind") }, accessFlags := 10, code := some k1c1 }
def k1c2 : Code := { maxStack := 3, maxLocals := 8, code := code, exceptionTable := #[], attributes := #[] }
def k1m2 : Method := { name := "law", desc := "(II)Z", sig := { parameters := [.int, .int], returnType := some .boolean }, accessFlags := 9, code := some k1c2 }
/-- com/example/since/since/smv/KindComparesWithPinLaw -/
def k1 : Class := { plain "com/example/since/since/smv/KindComparesWithPinLaw" (some 0) with
  accessFlags := 49
  interfaces := #[]
  cf := some (fileOf pool1 24 #[] #[{ accessFlags := 2, nameIndex := 5, descriptorIndex := 6, attributes := #[] }, { accessFlags := 10, nameIndex := 27, descriptorIndex := 28, attributes := #[] }, { accessFlags := 9, nameIndex := 36, descriptorIndex := 37, attributes := #[] }] 49 2 #[] #[])
  fields := #[]
  methods := #[k1m0, k1m1, k1m2]
  instanceTypes := #[]
  staticTypes := #[]
  resolved := Array.replicate 40 none
  statics := none }

def pool2 : Array CpInfo := pool [(1, .class_ 2), (0, u "java/lang/constant/Constable"), (0, .class_ 4), (0, u "java/lang/Object")] 6

/-- java/lang/constant/Constable -/
def k2 : Class := { plain "java/lang/constant/Constable" (some 0) with
  accessFlags := 1537
  interfaces := #[]
  cf := some (fileOf pool2 1 #[] #[] 1537 3 #[] #[])
  fields := #[]
  methods := #[]
  instanceTypes := #[]
  staticTypes := #[]
  resolved := Array.replicate 11 none
  statics := none }

def pool3 : Array CpInfo := pool [(1, .class_ 2), (0, u "java/lang/Comparable"), (0, .class_ 4), (0, u "java/lang/Object")] 7

/-- java/lang/Comparable -/
def k3 : Class := { plain "java/lang/Comparable" (some 0) with
  accessFlags := 1537
  interfaces := #[]
  cf := some (fileOf pool3 1 #[] #[] 1537 3 #[] #[])
  fields := #[]
  methods := #[]
  instanceTypes := #[]
  staticTypes := #[]
  resolved := Array.replicate 12 none
  statics := none }

def pool4 : Array CpInfo := pool [(1, .class_ 2), (0, u "java/io/Serializable"), (0, .class_ 4), (0, u "java/lang/Object")] 2

/-- java/io/Serializable -/
def k4 : Class := { plain "java/io/Serializable" (some 0) with
  accessFlags := 1537
  interfaces := #[]
  cf := some (fileOf pool4 1 #[] #[] 1537 3 #[] #[])
  fields := #[]
  methods := #[]
  instanceTypes := #[]
  staticTypes := #[]
  resolved := Array.replicate 7 none
  statics := none }

def pool5 : Array CpInfo := pool [(2, .class_ 4), (1, u "java/lang/Enum"), (0, u "name"), (0, u "Ljava/lang/String;"), (2, u "ordinal"), (0, u "I"), (1, .class_ 14), (1, u "java/lang/Object"), (4, u "hash"), (86, .class_ 108), (1, u "java/lang/Enum$EnumDesc"), (2, .class_ 112), (0, u "java/lang/constant/Constable"), (0, .class_ 114), (0, u "java/lang/Comparable"), (0, .class_ 116), (0, u "java/io/Serializable")] 87

/-- java/lang/Enum -/
def k5 : Class := { plain "java/lang/Enum" (some 0) with
  accessFlags := 1057
  interfaces := #[2, 3, 4]
  cf := some (fileOf pool5 2 #[.nestMembers #[106]] #[] 1057 12 #[111, 113, 115] #[{ accessFlags := 18, nameIndex := 5, descriptorIndex := 6, attributes := #[] }, { accessFlags := 18, nameIndex := 9, descriptorIndex := 10, attributes := #[] }, { accessFlags := 2, nameIndex := 19, descriptorIndex := 10, attributes := #[] }])
  fields := #[{ name := "name", type := (.object "java/lang/String"), accessFlags := 18, slot := 0, constantValue := 0 }, { name := "ordinal", type := .int, accessFlags := 18, slot := 1, constantValue := 0 }, { name := "hash", type := .int, accessFlags := 2, slot := 2, constantValue := 0 }]
  methods := #[]
  instanceTypes := #[(.object "java/lang/String"), .int, .int]
  staticTypes := #[]
  resolved := Array.replicate 204 none
  statics := none }

def pool6 : Array CpInfo := pool [(1, .class_ 2), (0, u "com/example/since/since/smv/Kind"), (0, .fieldref 1 4), (0, .nameAndType 5 6), (0, u "BOOLEAN"), (0, u "Lcom/example/since/since/smv/Kind;"), (2, u "INTEGER"), (2, u "SYMBOLIC"), (0, .fieldref 1 14), (0, .nameAndType 15 6), (0, u "MIXED"), (2, u "$VALUES"), (0, u "[Lcom/example/since/since/smv/Kind;"), (6, .class_ 28), (1, u "java/lang/Enum"), (8, u "description"), (0, u "Ljava/lang/String;"), (27, u "comparesWith"), (0, u "(Lcom/example/since/since/smv/Kind;)Z")] 9

def k6c0 : Code := { maxStack := 2, maxLocals := 3, code := prog_67_method_5_code, exceptionTable := #[], attributes := #[] }
def k6m0 : Method := { name := "comparesWith", desc := "(Lcom/example/since/since/smv/Kind;)Z", sig := { parameters := [(.object "com/example/since/since/smv/Kind")], returnType := some .boolean }, accessFlags := 0, code := some k6c0 }
/-- com/example/since/since/smv/Kind -/
def k6 : Class := { plain "com/example/since/since/smv/Kind" (some 5) with
  accessFlags := 16432
  interfaces := #[]
  cf := some (fileOf pool6 1 #[] #[{ accessFlags := 0, nameIndex := 66, descriptorIndex := 67, attributes := #[] }] 16432 26 #[] #[{ accessFlags := 16409, nameIndex := 5, descriptorIndex := 6, attributes := #[] }, { accessFlags := 16409, nameIndex := 9, descriptorIndex := 6, attributes := #[] }, { accessFlags := 16409, nameIndex := 12, descriptorIndex := 6, attributes := #[] }, { accessFlags := 16409, nameIndex := 15, descriptorIndex := 6, attributes := #[] }, { accessFlags := 18, nameIndex := 37, descriptorIndex := 38, attributes := #[] }, { accessFlags := 4122, nameIndex := 18, descriptorIndex := 19, attributes := #[] }])
  fields := #[{ name := "BOOLEAN", type := (.object "com/example/since/since/smv/Kind"), accessFlags := 16409, slot := 0, constantValue := 0 }, { name := "INTEGER", type := (.object "com/example/since/since/smv/Kind"), accessFlags := 16409, slot := 1, constantValue := 0 }, { name := "SYMBOLIC", type := (.object "com/example/since/since/smv/Kind"), accessFlags := 16409, slot := 2, constantValue := 0 }, { name := "MIXED", type := (.object "com/example/since/since/smv/Kind"), accessFlags := 16409, slot := 3, constantValue := 0 }, { name := "description", type := (.object "java/lang/String"), accessFlags := 18, slot := 3, constantValue := 0 }, { name := "$VALUES", type := (.array (.object "com/example/since/since/smv/Kind")), accessFlags := 4122, slot := 4, constantValue := 0 }]
  methods := #[k6m0]
  instanceTypes := #[(.object "java/lang/String"), .int, .int, (.object "java/lang/String")]
  staticTypes := #[(.object "com/example/since/since/smv/Kind"), (.object "com/example/since/since/smv/Kind"), (.object "com/example/since/since/smv/Kind"), (.object "com/example/since/since/smv/Kind"), (.array (.object "com/example/since/since/smv/Kind"))]
  resolved := Array.replicate 77 none
  statics := some 0 }

def pool7 : Array CpInfo := pool [(1, u "java/lang/Cloneable"), (0, .class_ 1), (0, u "java/lang/Object"), (0, .class_ 3)] 3

/-- java/lang/Cloneable -/
def k7 : Class := { plain "java/lang/Cloneable" (some 0) with
  accessFlags := 1537
  interfaces := #[]
  cf := some (fileOf pool7 2 #[] #[] 1537 4 #[] #[])
  fields := #[]
  methods := #[]
  instanceTypes := #[]
  staticTypes := #[]
  resolved := Array.replicate 8 none
  statics := none }

/-- the primitive byte -/
def k8 : Class := { plain "byte" none with kind := .primitive 'B', accessFlags := 0x411 }
/-- [B -/
def k9 : Class := { plain "[B" (some 0) with kind := .array 8 .byte, interfaces := #[7, 4], accessFlags := 1041 }

/-- the primitive int -/
def k10 : Class := { plain "int" none with kind := .primitive 'I', accessFlags := 0x411 }
/-- [I -/
def k11 : Class := { plain "[I" (some 0) with kind := .array 10 .int, interfaces := #[7, 4], accessFlags := 1041 }

def heap : Heap := #[{ cls := 6, slots := #[.ref 1, .ref 2, .ref 3, .ref 4, .null], vm := .statics 6 },
  { cls := 6, slots := #[.null, .int 0, .int 0, .null], vm := .none },
  { cls := 6, slots := #[.null, .int 1, .int 0, .null], vm := .none },
  { cls := 6, slots := #[.null, .int 2, .int 0, .null], vm := .none },
  { cls := 6, slots := #[.null, .int 3, .int 0, .null], vm := .none }]
def classes : Array Class := #[k0, k1, k2, k3, k4, k5, k6, k7, k8, k9, k10, k11]
def interned : List (Array UInt16 × Addr) := []
def slotsUsed : Nat := 21
def theMethod : MethodId := ⟨1, 2⟩
def args0 : Array Value := #[.int 5, .int 6]
def aboutOver (below : List Frame) : State where
  vm := { classes := classes, interned := interned.toArray }
  heap := heap
  slotsUsed := slotsUsed
  threads := #[{ frames := .invoking theMethod args0 :: below }]
def below0 : List Frame := [.native { method := ⟨0, 0⟩, args := #[] }]
def about1 : State := aboutOver below0
def p0 : Program := .bare "" "" ""
def e0 : Env := launch0.env 0 0 0
theorem w_frames : about1.frames = Frame.invoking theMethod args0 :: below0 := rfl
set_option maxRecDepth 65536 in
theorem w_args : argsFit about1.vm theMethod args0 = true := by decide +kernel
set_option maxRecDepth 65536 in
theorem w_heap : heapFits about1 = true := by decide +kernel
set_option maxRecDepth 65536 in
theorem w_runnable : about1.curStatus? = some .runnable := by decide +kernel
set_option maxRecDepth 65536 in
theorem w_alone : about1.alone = true := by decide +kernel
set_option maxRecDepth 65536 in
theorem w_named : about1.methodNamed? x = some theMethod := by decide +kernel
set_option maxRecDepth 65536 in
theorem w_hears : about1.hears theMethod below0 = true := by decide +kernel
set_option maxRecDepth 65536 in
theorem w_ripe : about1.ripe theMethod args0 below0 = true := by decide +kernel
theorem w_running : about1.status = .running := rfl
set_option maxRecDepth 65536 in
theorem w_room : about1.hasRoom e0.platform room_1 = true :=
  launch0.hasRoom_least _ room_1 (by decide +kernel) (by decide +kernel) (by decide +kernel) (by decide +kernel) (by decide +kernel) (by decide +kernel)
theorem allAtoms_all (ts : List Jvm.Cond) (a : Array Jvm.Value) (st : Jvm.State) : (allAtoms ts).before a st = ts.all (fun c => c.before a st) := by
  induction ts with
  | nil => rfl
  | cons c t ih =>
    show (Jvm.Cond.and c (allAtoms t)).before a st = _
    rw [Jvm.Cond.before_and, ih, List.all_cons]
def words1 : List Jvm.Cond := Jvm.Cond.code x code maxLocals ret :: tables_1
/-- a 'code' word, met by the world's own term for the bytes: nothing is compared byte by byte -/
theorem code_word {y : MethodName} {bytes : ByteArray} {mx : Nat} {rt : Option FieldType} {a : Array Value} {s : State} {m : MethodId} {meth : Method} {c : Code} (h1 : s.methodNamed? y = some m) (h2 : s.vm.method? m = some meth) (h3 : meth.code = some c) (h4 : c.code = bytes)
    (h5 : (c.maxLocals == mx && c.exceptionTable.isEmpty && decide (c.maxStack ≤ mostOperands) && decide (meth.sig.returnType = rt) && !meth.locks && decide (parseMethodDescriptor y.desc = some meth.sig)) = true) : (Jvm.Cond.code y bytes mx rt).before a s = true := by
  simp only [Bool.and_eq_true, beq_iff_eq, Bool.not_eq_true', decide_eq_true_eq] at h5
  obtain ⟨⟨⟨⟨⟨g1, g2⟩, g3⟩, g4⟩, g5⟩, g6⟩ := h5
  simp [Cond.before, Cond.holds, Cond.value, h1, h2, h3, h4, g1, g2, g3, g4, g5, g6]
def isCode : Jvm.Cond → Bool
  | .code _ _ _ _ => true
  | _ => false
theorem all_split {L : List Jvm.Cond} {P : Jvm.Cond → Bool} (h1 : L.all (fun c => isCode c || P c) = true) (h2 : ∀ c ∈ L.filter isCode, P c = true) : L.all P = true := by
  refine List.all_eq_true.mpr fun c hc => ?_
  have h := List.all_eq_true.mp h1 c hc
  rcases Bool.eq_false_or_eq_true (isCode c) with hi | hi
  · exact h2 c (List.mem_filter.mpr ⟨hc, hi⟩)
  · simpa [hi] using h
set_option maxRecDepth 65536 in
theorem w_c0 : (Jvm.Cond.code x code maxLocals ret).before args0 about1 = true := code_word (m := ⟨1, 2⟩) (meth := k1m2) (c := k1c2) (by decide +kernel) rfl rfl rfl (by decide +kernel)
set_option maxRecDepth 65536 in
theorem w_c1 : (Jvm.Cond.code ({ cls := "com/example/since/since/smv/KindComparesWithPinLaw", name := "kindOf", desc := "(I)Lcom/example/since/since/smv/Kind;" } : Jvm.MethodName) method_2_code (1 : Nat) (Option.some (Jvm.ClassFile.FieldType.object "com/example/since/since/smv/Kind"))).before args0 about1 = true := code_word (m := ⟨1, 1⟩) (meth := k1m1) (c := k1c1) (by decide +kernel) rfl rfl rfl (by decide +kernel)
set_option maxRecDepth 65536 in
theorem w_c2 : (Jvm.Cond.code ({ cls := "com/example/since/since/smv/Kind", name := "comparesWith", desc := "(Lcom/example/since/since/smv/Kind;)Z" } : Jvm.MethodName) prog_67_method_5_code (3 : Nat) (Option.some Jvm.ClassFile.FieldType.boolean)).before args0 about1 = true := code_word (m := ⟨6, 0⟩) (meth := k6m0) (c := k6c0) (by decide +kernel) rfl rfl rfl (by decide +kernel)
def codes1 : List Jvm.Cond := [Jvm.Cond.code x code maxLocals ret, Jvm.Cond.code ({ cls := "com/example/since/since/smv/KindComparesWithPinLaw", name := "kindOf", desc := "(I)Lcom/example/since/since/smv/Kind;" } : Jvm.MethodName) method_2_code (1 : Nat) (Option.some (Jvm.ClassFile.FieldType.object "com/example/since/since/smv/Kind")), Jvm.Cond.code ({ cls := "com/example/since/since/smv/Kind", name := "comparesWith", desc := "(Lcom/example/since/since/smv/Kind;)Z" } : Jvm.MethodName) prog_67_method_5_code (3 : Nat) (Option.some Jvm.ClassFile.FieldType.boolean)]
set_option maxRecDepth 65536 in
theorem codes_eq : words1.filter isCode = codes1 := rfl
theorem w_codes : ∀ c ∈ words1.filter isCode, c.before args0 about1 = true := by
  rw [codes_eq]
  intro c hc
  simp only [codes1, List.mem_cons, List.not_mem_nil, or_false] at hc
  rcases hc with rfl | rfl | rfl
  · exact w_c0
  · exact w_c1
  · exact w_c2
set_option maxRecDepth 65536 in
theorem w_t1 : words1.all (fun c => isCode c || c.before args0 about1) = true := by decide +kernel
theorem w_tables : (allAtoms (Jvm.Cond.code x code maxLocals ret :: tables_1)).before args0 about1 = true := by
  rw [allAtoms_all]
  show words1.all (fun c => c.before args0 about1) = true
  refine all_split ?_ w_codes
  rw [w_t1]
set_option maxRecDepth 65536 in
theorem w_case : (Jvm.Cond.and given_1 narrow_1).before args0 about1 = true := by decide +kernel
theorem w_applies : (headSpec (Jvm.Cond.code x code maxLocals ret :: tables_1) room_1).applies x e0.platform about1 = true :=
  (Spec.applies_iff w_frames).mpr ⟨w_running, w_runnable, w_alone, w_named, w_hears, w_ripe, w_room, w_tables⟩
theorem atStart : AtStart classFile x code maxLocals ret World_1 tables_1 room_1 Calls_1 rest_1 Pre_1 launch0 p0 e0 about1 theMethod args0 below0 :=
  ⟨lists_1, trivial, launch0.admits_env _ _ _, launch0.least_env, fairChoices_fair.cas, fairChoices_fair.clock, w_frames, w_args, w_heap, w_applies, trivial, trivial, w_case⟩
end start1
theorem witness_1 : WitnessClaimed_1 := ⟨start1.p0, start1.e0, start1.about1, start1.theMethod, start1.args0, start1.below0, start1.atStart⟩
end Jvm.Pilot.@@N@@
