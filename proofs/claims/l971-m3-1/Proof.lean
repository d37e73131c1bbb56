import JvmDerived
import JvmDerived.Pilot.@@N@@Statement
import JvmDerived.Pilot.@@N@@Code
set_option linter.unusedVariables false
set_option linter.unusedSimpArgs false
namespace Jvm.RoadKit
open Sem ClassFile Op Lib Jvm.Stand Jvm.Free Jvm.LawKit
section New
variable {p : Program} {l : Launch} {e : Env} {R : Room} {s : State} {m : MethodId} {args : Array Value} {below : List Frame} {meth : Method} {c : Code} {T : State} {locs : List Loc} {cells slots : Nat}
theorem retI (X : Stand p l e R s m args below meth c T locs cells slots) (hx : p.tables.exec = Jvm.exec) {pc : Nat} {Ls : Array Slot} {z : Int32} {rest : List Value} (hret : meth.sig.returnType = some .int) (hd : decode c.code pc = .ok (.ireturn, 1)) {fs : List Frame}
    (hl : ∀ (f : JFrame) (acts : List Action), f.method = m → f.locked = none → f.entered = [] → (doReturn e (T.setTop f) acts (some (.int z))).1 = T.setFrames fs) : Steps p.tables e below (T.setTop (mkF m pc Ls (.int z :: rest))) (T.setFrames fs) := by
  have hm' : T.vm.method? m = some meth := X.method'
  have hn : narrow .int (.int z) = .int z := rfl
  show Steps p.tables e below (T.setTop { method := m, pc := pc, locals := Ls, stack := _ :: rest, locked := none }) _
  jvm_step X.here [X.here.top, hx, hd, hm', hret, hn]
  first | (intro acts; rw [hl _ acts rfl rfl rfl]) | rw [hl _ _ rfl rfl rfl]
  exact Steps.refl _
end New
end Jvm.RoadKit
namespace Jvm.Pilot.@@N@@
open Jvm Jvm.ClassFile Sem Op Lib Jvm.Free Jvm.Stand Jvm.LawKit Jvm.RoadKit Bundle Jvm.Pilot.@@N@@.Jvm.D
abbrev own_s (p : Program) (e : Env) (below : List Frame) (T : State) (m : MethodId) (pc : Nat) (L : Array Slot) (S : List Value) (t : State) : Prop := Steps p.tables e below (T.setTop (mkF m pc L S)) t
def own_ns (c : Int32) : Int32 := if (97 ≤ c.toInt ∧ c.toInt ≤ 122) ∨ (65 ≤ c.toInt ∧ c.toInt ≤ 90) ∨ c.toInt = 95 then 1 else 0
theorem own_or32n (n : Nat) : n ||| 32 = n + 32 - 32 * ((n / 32) % 2) := by
  have hm : n % 64 < 64 := Nat.mod_lt _ (by decide)
  have e : 2 ^ 6 * (n / 64) + n % 64 = n := by omega
  have d : ∀ m : Fin 64, m.val ||| 32 = m.val + 32 - 32 * ((m.val / 32) % 2) := by decide
  have hd : n % 64 ||| 32 = n % 64 + 32 - 32 * ((n % 64 / 32) % 2) := d ⟨n % 64, hm⟩
  have h1 : n ||| 32 = 2 ^ 6 * (n / 64) + (n % 64 ||| 32) := by
    rw [Nat.two_pow_add_eq_or_of_lt (Nat.or_lt_two_pow (n := 6) hm (by decide)) (n / 64), ← Nat.or_assoc, ← Nat.two_pow_add_eq_or_of_lt hm (n / 64), e]
  rw [h1, hd]; omega
theorem own_or32 (c : Int32) (h0 : 0 ≤ c.toInt) : (c ||| 32).toInt = c.toInt + 32 - 32 * ((c.toInt / 32) % 2) := by
  have hc := rng32 c
  have l1 := c.toBitVec.isLt
  have q1 : c.toInt = _ := BitVec.toInt_eq_toNat_cond c.toBitVec
  have q2 : (c ||| 32).toInt = _ := BitVec.toInt_eq_toNat_cond (c ||| 32).toBitVec
  have q3 : (c ||| 32).toBitVec.toNat = c.toBitVec.toNat ||| 32 := by rw [Int32.toBitVec_or, BitVec.toNat_or]; rfl
  rw [q3, own_or32n] at q2
  generalize c.toBitVec.toNat = n at *
  split at q1 <;> split at q2 <;> omega
theorem d1_0 : decode prog_40_method_2_code 0 = .ok (.iload_n 0, 1) := by decide +kernel
theorem d1_1 : decode prog_40_method_2_code 1 = .ok (.bipush 97, 2) := by decide +kernel
theorem d1_3 : decode prog_40_method_2_code 3 = .ok (.if_icmp .lt 9, 3) := by decide +kernel
theorem d1_6 : decode prog_40_method_2_code 6 = .ok (.iload_n 0, 1) := by decide +kernel
theorem d1_7 : decode prog_40_method_2_code 7 = .ok (.bipush 122, 2) := by decide +kernel
theorem d1_9 : decode prog_40_method_2_code 9 = .ok (.if_icmp .le 21, 3) := by decide +kernel
theorem d1_12 : decode prog_40_method_2_code 12 = .ok (.iload_n 0, 1) := by decide +kernel
theorem d1_13 : decode prog_40_method_2_code 13 = .ok (.bipush 65, 2) := by decide +kernel
theorem d1_15 : decode prog_40_method_2_code 15 = .ok (.if_icmp .lt 9, 3) := by decide +kernel
theorem d1_18 : decode prog_40_method_2_code 18 = .ok (.iload_n 0, 1) := by decide +kernel
theorem d1_19 : decode prog_40_method_2_code 19 = .ok (.bipush 90, 2) := by decide +kernel
theorem d1_21 : decode prog_40_method_2_code 21 = .ok (.if_icmp .le 9, 3) := by decide +kernel
theorem d1_24 : decode prog_40_method_2_code 24 = .ok (.iload_n 0, 1) := by decide +kernel
theorem d1_25 : decode prog_40_method_2_code 25 = .ok (.bipush 95, 2) := by decide +kernel
theorem d1_27 : decode prog_40_method_2_code 27 = .ok (.if_icmp .ne 7, 3) := by decide +kernel
theorem d1_30 : decode prog_40_method_2_code 30 = .ok (.iconst 1, 1) := by decide +kernel
theorem d1_31 : decode prog_40_method_2_code 31 = .ok (.goto 4, 3) := by decide +kernel
theorem d1_34 : decode prog_40_method_2_code 34 = .ok (.iconst 0, 1) := by decide +kernel
theorem d1_35 : decode prog_40_method_2_code 35 = .ok (.ireturn, 1) := by decide +kernel
theorem pn_1 : plainName "com/example/since/since/formula/Names" = true := by first | (simp [plainName, overriddenIn]; done) | decide +kernel
theorem ef_1 (m : MethodId) (p0 : Int32) : entryFrame m #[(.int p0)] 1 = mkF m 0 #[iv p0] [] := by first | (simp [entryFrame, mkF, argsToLocals, Value.category]; done) | rfl
def Q1 (Z : State) (p0 : Int32) (h0 : Heap) (n0 : Nat) (v : Option Value) (h : Heap) (L : List Loc) : Prop := v = some (.int (own_ns p0)) ∧ Fr n0 L ∧ h = h0
set_option maxRecDepth 65536 in
set_option maxHeartbeats 40000000 in
theorem rm1 (l : Launch) (Z : State) (a0 : Array Value) (hw : ∀ d ∈ tables_1, d.before a0 Z = true) (ws : List Jvm.Cond) (p0 : Int32) (h0 : Heap) (n0 : Nat) (Z0 : n0 ≤ h0.size)  :
    MetFree l (⟨"com/example/since/since/formula/Names", "isNameStart", "(C)Z"⟩ : MethodName) (head1 (Jvm.Cond.code (⟨"com/example/since/since/formula/Names", "isNameStart", "(C)Z"⟩ : MethodName) prog_40_method_2_code 1 (some .boolean) :: ws) ({ frames := 0, cells := 0, slots := 0, locals := 0 } : Room)) (fun a U => a = #[(.int p0)] ∧ Z.Warmed39 U.vm ∧ U.heap = h0) (fun _ _ _ _ _ => True) (fun _ U o U' => ∃ v L, o = .returned v ∧ Q1 Z p0 h0 n0 v U'.heap L ∧ FrameEnd U o U' L ({ frames := 0, cells := 0, slots := 0, locals := 0 } : Room).cells ({ frames := 0, cells := 0, slots := 0, locals := 0 } : Room).slots) := by
  refine MetFree.of_bodySF (plainFor_of_name pn_1) hisR ?_
  intro p e s m args below meth c s₁ Bd hml0 hP hK
  obtain ⟨rfl, hZ, hh⟩ := hP
  have hx := Bd.exec
  have hby := Bd.bytes
  have hml : c.maxLocals = 1 := hml0
  have hown : s.vm.findClass "com/example/since/since/formula/Names" = some m.cls := findClass_of_methodNamed Bd.named
  have hnm := (name_of_methodNamed Bd.named Bd.method).1
  have X0 : Stand p l e ({ frames := 0, cells := 0, slots := 0, locals := 0 } : Room) s m #[(.int p0)] below meth c s₁ [] 0 0 := Stand.of_body Bd
  have e0 : s₁.heap = h0 := by rw [← hh, Bd.state]; rfl
  have N0 := Fr.nil n0
  have pre0 : ∀ t, Steps p.tables e below (s₁.setTop (mkF m 0 #[iv p0] [])) t → Steps p.tables e below (s₁.setTop (entryFrame m #[(.int p0)] 1)) t := fun t k => castTop (ef_1 m p0) k
  obtain ⟨S0, hS0⟩ : ∃ z, z = (s₁.setTop (entryFrame m #[(.int p0)] 1)) := ⟨_, rfl⟩
  rw [← hS0] at pre0
  have pre1 : ∀ t, own_s p e below s₁ m 3 #[iv p0] [(.int (97 : Int32)), (.int p0)] t → Steps p.tables e below S0 t := by
    intro t k
    refine pre0 _ ?_
    show own_s p e below s₁ m 0 #[iv p0] [] _
    refine XS.iloadN X0.here hx rfl (hb hby d1_0) rfl ?_
    show own_s p e below s₁ m 1 #[iv p0] [(.int p0)] _
    refine XS.bipush X0.here hx rfl (hb hby d1_1) ?_
    exact k
  by_cases hc2 : p0 < (97 : Int32)
  · skip
    have ihc2 : (p0).toInt < (97 : Int) := Int32.lt_iff_toInt_lt.mp hc2
    have pre3 : ∀ t, own_s p e below s₁ m 15 #[iv p0] [(.int (65 : Int32)), (.int p0)] t → Steps p.tables e below S0 t := by
      intro t k
      refine pre1 _ ?_
      show own_s p e below s₁ m 3 #[iv p0] [(.int (97 : Int32)), (.int p0)] _
      refine XS.icmpYes X0.here hx rfl (pc0 := 3) (pc' := 12) rfl (hb hby d1_3) rfl (tlt hc2).1 (by decide) (by decide) ?_
      show own_s p e below s₁ m 12 #[iv p0] [] _
      refine XS.iloadN X0.here hx rfl (hb hby d1_12) rfl ?_
      show own_s p e below s₁ m 13 #[iv p0] [(.int p0)] _
      refine XS.bipush X0.here hx rfl (hb hby d1_13) ?_
      exact k
    by_cases hc4 : p0 < (65 : Int32)
    · skip
      have ihc4 : (p0).toInt < (65 : Int) := Int32.lt_iff_toInt_lt.mp hc4
      have pre5 : ∀ t, own_s p e below s₁ m 35 #[iv p0] [(.int (0 : Int32))] t → Steps p.tables e below S0 t := by
        intro t k
        refine pre3 _ ?_
        show own_s p e below s₁ m 15 #[iv p0] [(.int (65 : Int32)), (.int p0)] _
        refine XS.icmpYes X0.here hx rfl (pc0 := 15) (pc' := 24) rfl (hb hby d1_15) rfl (tlt hc4).1 (by decide) (by decide) ?_
        show own_s p e below s₁ m 24 #[iv p0] [] _
        refine XS.iloadN X0.here hx rfl (hb hby d1_24) rfl ?_
        show own_s p e below s₁ m 25 #[iv p0] [(.int p0)] _
        refine XS.bipush X0.here hx rfl (hb hby d1_25) ?_
        show own_s p e below s₁ m 27 #[iv p0] [(.int (95 : Int32)), (.int p0)] _
        refine XS.icmpYes X0.here hx rfl (pc0 := 27) (pc' := 34) rfl (hb hby d1_27) rfl (feq (show ¬ (p0 = (95 : Int32)) from (fun q => absurd (show (p0).toInt = (95 : Int) from congrArg Int32.toInt q) (by omega)))).2 (by decide) (by decide) ?_
        show own_s p e below s₁ m 34 #[iv p0] [] _
        refine XS.iconst X0.here hx rfl (hb hby d1_34) ?_
        exact k
      subst hS0
      obtain ⟨fs, hr, hrun, hended, hW, hsame⟩ := X0.leave (v := (some (.int (0 : Int32)))) (fun h => by rw [Bd.returns] at h; cases h)
      refine ⟨_, _, pre5 _ (retN X0 hx (t := .boolean) Bd.returns (by simp) (hb hby d1_35) hr), hrun, hended, _, _, rfl, ?_, ⟨_, rfl⟩, hW, hsame.mono (by decide) (by decide)⟩
      show Q1 Z p0 h0 n0 (some (.int (0 : Int32))) s₁.heap _
      exact ⟨congrArg (fun z => some (Value.int z)) (show (0 : Int32) = own_ns p0 from by unfold own_ns; rw [if_neg (by omega)]), N0, e0⟩
    · skip
      have ihc4 : ¬ ((p0).toInt < (65 : Int)) := fun q => hc4 (Int32.lt_iff_toInt_lt.mpr q)
      have pre6 : ∀ t, own_s p e below s₁ m 21 #[iv p0] [(.int (90 : Int32)), (.int p0)] t → Steps p.tables e below S0 t := by
        intro t k
        refine pre3 _ ?_
        show own_s p e below s₁ m 15 #[iv p0] [(.int (65 : Int32)), (.int p0)] _
        refine XS.icmpNo X0.here hx rfl (hb hby d1_15) rfl (flt hc4).1 ?_
        show own_s p e below s₁ m 18 #[iv p0] [] _
        refine XS.iloadN X0.here hx rfl (hb hby d1_18) rfl ?_
        show own_s p e below s₁ m 19 #[iv p0] [(.int p0)] _
        refine XS.bipush X0.here hx rfl (hb hby d1_19) ?_
        exact k
      by_cases hc7 : (90 : Int32) < p0
      · skip
        have ihc7 : (90 : Int) < (p0).toInt := Int32.lt_iff_toInt_lt.mp hc7
        have pre8 : ∀ t, own_s p e below s₁ m 27 #[iv p0] [(.int (95 : Int32)), (.int p0)] t → Steps p.tables e below S0 t := by
          intro t k
          refine pre6 _ ?_
          show own_s p e below s₁ m 21 #[iv p0] [(.int (90 : Int32)), (.int p0)] _
          refine XS.icmpNo X0.here hx rfl (hb hby d1_21) rfl (tlt hc7).2.2.2 ?_
          show own_s p e below s₁ m 24 #[iv p0] [] _
          refine XS.iloadN X0.here hx rfl (hb hby d1_24) rfl ?_
          show own_s p e below s₁ m 25 #[iv p0] [(.int p0)] _
          refine XS.bipush X0.here hx rfl (hb hby d1_25) ?_
          exact k
        by_cases hc9 : p0 = (95 : Int32)
        · skip
          have ihc9 : (p0).toInt = (95 : Int) := congrArg Int32.toInt hc9
          have pre10 : ∀ t, own_s p e below s₁ m 35 #[iv p0] [(.int (1 : Int32))] t → Steps p.tables e below S0 t := by
            intro t k
            refine pre8 _ ?_
            show own_s p e below s₁ m 27 #[iv p0] [(.int (95 : Int32)), (.int p0)] _
            refine XS.icmpNo X0.here hx rfl (hb hby d1_27) rfl (teq hc9).2 ?_
            show own_s p e below s₁ m 30 #[iv p0] [] _
            refine XS.iconst X0.here hx rfl (hb hby d1_30) ?_
            show own_s p e below s₁ m 31 #[iv p0] [(.int (1 : Int32))] _
            refine XS.goto X0.here hx rfl (pc0 := 31) (pc' := 35) rfl (hb hby d1_31) (by decide) (by decide) ?_
            exact k
          subst hS0
          obtain ⟨fs, hr, hrun, hended, hW, hsame⟩ := X0.leave (v := (some (.int (1 : Int32)))) (fun h => by rw [Bd.returns] at h; cases h)
          refine ⟨_, _, pre10 _ (retN X0 hx (t := .boolean) Bd.returns (by simp) (hb hby d1_35) hr), hrun, hended, _, _, rfl, ?_, ⟨_, rfl⟩, hW, hsame.mono (by decide) (by decide)⟩
          show Q1 Z p0 h0 n0 (some (.int (1 : Int32))) s₁.heap _
          exact ⟨congrArg (fun z => some (Value.int z)) (show (1 : Int32) = own_ns p0 from by unfold own_ns; rw [if_pos (by omega)]), N0, e0⟩
        · skip
          have ihc9 : ¬ ((p0).toInt = (95 : Int)) := fun q => hc9 (Int32.toInt_inj.mp q)
          have pre11 : ∀ t, own_s p e below s₁ m 35 #[iv p0] [(.int (0 : Int32))] t → Steps p.tables e below S0 t := by
            intro t k
            refine pre8 _ ?_
            show own_s p e below s₁ m 27 #[iv p0] [(.int (95 : Int32)), (.int p0)] _
            refine XS.icmpYes X0.here hx rfl (pc0 := 27) (pc' := 34) rfl (hb hby d1_27) rfl (feq hc9).2 (by decide) (by decide) ?_
            show own_s p e below s₁ m 34 #[iv p0] [] _
            refine XS.iconst X0.here hx rfl (hb hby d1_34) ?_
            exact k
          subst hS0
          obtain ⟨fs, hr, hrun, hended, hW, hsame⟩ := X0.leave (v := (some (.int (0 : Int32)))) (fun h => by rw [Bd.returns] at h; cases h)
          refine ⟨_, _, pre11 _ (retN X0 hx (t := .boolean) Bd.returns (by simp) (hb hby d1_35) hr), hrun, hended, _, _, rfl, ?_, ⟨_, rfl⟩, hW, hsame.mono (by decide) (by decide)⟩
          show Q1 Z p0 h0 n0 (some (.int (0 : Int32))) s₁.heap _
          exact ⟨congrArg (fun z => some (Value.int z)) (show (0 : Int32) = own_ns p0 from by unfold own_ns; rw [if_neg (by omega)]), N0, e0⟩
      · skip
        have ihc7 : ¬ ((90 : Int) < (p0).toInt) := fun q => hc7 (Int32.lt_iff_toInt_lt.mpr q)
        have pre12 : ∀ t, own_s p e below s₁ m 35 #[iv p0] [(.int (1 : Int32))] t → Steps p.tables e below S0 t := by
          intro t k
          refine pre6 _ ?_
          show own_s p e below s₁ m 21 #[iv p0] [(.int (90 : Int32)), (.int p0)] _
          refine XS.icmpYes X0.here hx rfl (pc0 := 21) (pc' := 30) rfl (hb hby d1_21) rfl (flt hc7).2.2.2 (by decide) (by decide) ?_
          show own_s p e below s₁ m 30 #[iv p0] [] _
          refine XS.iconst X0.here hx rfl (hb hby d1_30) ?_
          show own_s p e below s₁ m 31 #[iv p0] [(.int (1 : Int32))] _
          refine XS.goto X0.here hx rfl (pc0 := 31) (pc' := 35) rfl (hb hby d1_31) (by decide) (by decide) ?_
          exact k
        subst hS0
        obtain ⟨fs, hr, hrun, hended, hW, hsame⟩ := X0.leave (v := (some (.int (1 : Int32)))) (fun h => by rw [Bd.returns] at h; cases h)
        refine ⟨_, _, pre12 _ (retN X0 hx (t := .boolean) Bd.returns (by simp) (hb hby d1_35) hr), hrun, hended, _, _, rfl, ?_, ⟨_, rfl⟩, hW, hsame.mono (by decide) (by decide)⟩
        show Q1 Z p0 h0 n0 (some (.int (1 : Int32))) s₁.heap _
        exact ⟨congrArg (fun z => some (Value.int z)) (show (1 : Int32) = own_ns p0 from by unfold own_ns; rw [if_pos (by omega)]), N0, e0⟩
  · skip
    have ihc2 : ¬ ((p0).toInt < (97 : Int)) := fun q => hc2 (Int32.lt_iff_toInt_lt.mpr q)
    have pre13 : ∀ t, own_s p e below s₁ m 9 #[iv p0] [(.int (122 : Int32)), (.int p0)] t → Steps p.tables e below S0 t := by
      intro t k
      refine pre1 _ ?_
      show own_s p e below s₁ m 3 #[iv p0] [(.int (97 : Int32)), (.int p0)] _
      refine XS.icmpNo X0.here hx rfl (hb hby d1_3) rfl (flt hc2).1 ?_
      show own_s p e below s₁ m 6 #[iv p0] [] _
      refine XS.iloadN X0.here hx rfl (hb hby d1_6) rfl ?_
      show own_s p e below s₁ m 7 #[iv p0] [(.int p0)] _
      refine XS.bipush X0.here hx rfl (hb hby d1_7) ?_
      exact k
    by_cases hc14 : (122 : Int32) < p0
    · skip
      have ihc14 : (122 : Int) < (p0).toInt := Int32.lt_iff_toInt_lt.mp hc14
      have pre15 : ∀ t, own_s p e below s₁ m 35 #[iv p0] [(.int (0 : Int32))] t → Steps p.tables e below S0 t := by
        intro t k
        refine pre13 _ ?_
        show own_s p e below s₁ m 9 #[iv p0] [(.int (122 : Int32)), (.int p0)] _
        refine XS.icmpNo X0.here hx rfl (hb hby d1_9) rfl (tlt hc14).2.2.2 ?_
        show own_s p e below s₁ m 12 #[iv p0] [] _
        refine XS.iloadN X0.here hx rfl (hb hby d1_12) rfl ?_
        show own_s p e below s₁ m 13 #[iv p0] [(.int p0)] _
        refine XS.bipush X0.here hx rfl (hb hby d1_13) ?_
        show own_s p e below s₁ m 15 #[iv p0] [(.int (65 : Int32)), (.int p0)] _
        refine XS.icmpNo X0.here hx rfl (hb hby d1_15) rfl (flt (show ¬ (p0 < (65 : Int32)) from (fun q => absurd (show (p0).toInt < (65 : Int) from Int32.lt_iff_toInt_lt.mp q) (by omega)))).1 ?_
        show own_s p e below s₁ m 18 #[iv p0] [] _
        refine XS.iloadN X0.here hx rfl (hb hby d1_18) rfl ?_
        show own_s p e below s₁ m 19 #[iv p0] [(.int p0)] _
        refine XS.bipush X0.here hx rfl (hb hby d1_19) ?_
        show own_s p e below s₁ m 21 #[iv p0] [(.int (90 : Int32)), (.int p0)] _
        refine XS.icmpNo X0.here hx rfl (hb hby d1_21) rfl (tlt (show (90 : Int32) < p0 from (Int32.lt_iff_toInt_lt.mpr (by omega : (90 : Int) < (p0).toInt)))).2.2.2 ?_
        show own_s p e below s₁ m 24 #[iv p0] [] _
        refine XS.iloadN X0.here hx rfl (hb hby d1_24) rfl ?_
        show own_s p e below s₁ m 25 #[iv p0] [(.int p0)] _
        refine XS.bipush X0.here hx rfl (hb hby d1_25) ?_
        show own_s p e below s₁ m 27 #[iv p0] [(.int (95 : Int32)), (.int p0)] _
        refine XS.icmpYes X0.here hx rfl (pc0 := 27) (pc' := 34) rfl (hb hby d1_27) rfl (feq (show ¬ (p0 = (95 : Int32)) from (fun q => absurd (show (p0).toInt = (95 : Int) from congrArg Int32.toInt q) (by omega)))).2 (by decide) (by decide) ?_
        show own_s p e below s₁ m 34 #[iv p0] [] _
        refine XS.iconst X0.here hx rfl (hb hby d1_34) ?_
        exact k
      subst hS0
      obtain ⟨fs, hr, hrun, hended, hW, hsame⟩ := X0.leave (v := (some (.int (0 : Int32)))) (fun h => by rw [Bd.returns] at h; cases h)
      refine ⟨_, _, pre15 _ (retN X0 hx (t := .boolean) Bd.returns (by simp) (hb hby d1_35) hr), hrun, hended, _, _, rfl, ?_, ⟨_, rfl⟩, hW, hsame.mono (by decide) (by decide)⟩
      show Q1 Z p0 h0 n0 (some (.int (0 : Int32))) s₁.heap _
      exact ⟨congrArg (fun z => some (Value.int z)) (show (0 : Int32) = own_ns p0 from by unfold own_ns; rw [if_neg (by omega)]), N0, e0⟩
    · skip
      have ihc14 : ¬ ((122 : Int) < (p0).toInt) := fun q => hc14 (Int32.lt_iff_toInt_lt.mpr q)
      have pre16 : ∀ t, own_s p e below s₁ m 35 #[iv p0] [(.int (1 : Int32))] t → Steps p.tables e below S0 t := by
        intro t k
        refine pre13 _ ?_
        show own_s p e below s₁ m 9 #[iv p0] [(.int (122 : Int32)), (.int p0)] _
        refine XS.icmpYes X0.here hx rfl (pc0 := 9) (pc' := 30) rfl (hb hby d1_9) rfl (flt hc14).2.2.2 (by decide) (by decide) ?_
        show own_s p e below s₁ m 30 #[iv p0] [] _
        refine XS.iconst X0.here hx rfl (hb hby d1_30) ?_
        show own_s p e below s₁ m 31 #[iv p0] [(.int (1 : Int32))] _
        refine XS.goto X0.here hx rfl (pc0 := 31) (pc' := 35) rfl (hb hby d1_31) (by decide) (by decide) ?_
        exact k
      subst hS0
      obtain ⟨fs, hr, hrun, hended, hW, hsame⟩ := X0.leave (v := (some (.int (1 : Int32)))) (fun h => by rw [Bd.returns] at h; cases h)
      refine ⟨_, _, pre16 _ (retN X0 hx (t := .boolean) Bd.returns (by simp) (hb hby d1_35) hr), hrun, hended, _, _, rfl, ?_, ⟨_, rfl⟩, hW, hsame.mono (by decide) (by decide)⟩
      show Q1 Z p0 h0 n0 (some (.int (1 : Int32))) s₁.heap _
      exact ⟨congrArg (fun z => some (Value.int z)) (show (1 : Int32) = own_ns p0 from by unfold own_ns; rw [if_pos (by omega)]), N0, e0⟩
theorem pn_0 : plainName "com/example/since/since/formula/NamesIsNameStartPinLaw" = true := by first | (simp [plainName, overriddenIn]; done) | decide +kernel
theorem pd0_0 : parseMethodDescriptor "(C)Z" = some ⟨[.char], some .boolean⟩ := by decide +kernel
theorem ef_0 (m : MethodId) (i0 : Int32) : entryFrame m #[(.int i0)] maxLocals = mkF m 0 #[iv i0, .unset, .unset, .unset, .unset] [] := by first | (simp [entryFrame, mkF, argsToLocals, Value.category, maxLocals]; done) | rfl
def Q0 (Z : State) (i0 : Int32) (h0 : Heap) (n0 : Nat) (v : Option Value) (h : Heap) (L : List Loc) : Prop := v = some (.int 1) ∧ Fr n0 L
set_option maxRecDepth 65536 in
set_option maxHeartbeats 40000000 in
theorem rm0 (l : Launch) (Z : State) (a0 : Array Value) (hw : ∀ d ∈ tables_1, d.before a0 Z = true) (ws : List Jvm.Cond) (i0 : Int32) (h0 : Heap) (n0 : Nat) (Z0 : n0 ≤ h0.size)  :
    MetFree l x (head1 (Jvm.Cond.code x code maxLocals ret :: ws) room_1) (fun a U => a = #[(.int i0)] ∧ Z.Warmed39 U.vm ∧ U.heap = h0) (fun _ _ _ _ _ => True) (fun _ U o U' => ∃ v L, o = .returned v ∧ Q0 Z i0 h0 n0 v U'.heap L ∧ FrameEnd U o U' L 0 0) := by
  refine MetFree.of_bodySF (plainFor_of_name pn_0) hisR ?_
  intro p e s m args below meth c s₁ Bd hml0 hP hK
  obtain ⟨rfl, hZ, hh⟩ := hP
  have hx := Bd.exec
  have hby := Bd.bytes
  have hml : c.maxLocals = 5 := hml0
  have hown : s.vm.findClass "com/example/since/since/formula/NamesIsNameStartPinLaw" = some m.cls := findClass_of_methodNamed Bd.named
  have hnm := (name_of_methodNamed Bd.named Bd.method).1
  have X0 : Stand p l e room_1 s m #[(.int i0)] below meth c s₁ [] 0 0 := Stand.of_body Bd
  have e0 : s₁.heap = h0 := by rw [← hh, Bd.state]; rfl
  have N0 := Fr.nil n0
  have pre0 : ∀ t, Steps p.tables e below (s₁.setTop (mkF m 0 #[iv i0, .unset, .unset, .unset, .unset] [])) t → Steps p.tables e below (s₁.setTop (entryFrame m #[(.int i0)] maxLocals)) t := fun t k => castTop (ef_0 m i0) k
  obtain ⟨S0, hS0⟩ : ∃ z, z = (s₁.setTop (entryFrame m #[(.int i0)] maxLocals)) := ⟨_, rfl⟩
  rw [← hS0] at pre0
  have pre1 : ∀ t, own_s p e below s₁ m 5 #[iv i0, .unset, .unset, .unset, .unset] [(.int ((i0 &&& (65535 : Int32)).toUInt32.toUInt16.toUInt32.toInt32))] t → Steps p.tables e below S0 t := by
    intro t k
    refine pre0 _ ?_
    show own_s p e below s₁ m 0 #[iv i0, .unset, .unset, .unset, .unset] [] _
    refine XS.iloadN X0.here hx rfl (hb hby at_0) rfl ?_
    show own_s p e below s₁ m 1 #[iv i0, .unset, .unset, .unset, .unset] [(.int i0)] _
    refine X0.ldcInt hx hown (mvT hZ (hw _ (List.mem_of_getElem? (i := 0) rfl))) (g := (mkF m 1 #[iv i0, .unset, .unset, .unset, .unset] [(.int i0)])) rfl (hb hby at_1) _ ?_
    show own_s p e below s₁ m 3 #[iv i0, .unset, .unset, .unset, .unset] [(.int (65535 : Int32)), (.int i0)] _
    refine XS.iand X0.here hx rfl (hb hby at_3) rfl ?_
    show own_s p e below s₁ m 4 #[iv i0, .unset, .unset, .unset, .unset] [(.int (i0 &&& (65535 : Int32)))] _
    refine XS.i2c X0.here hx rfl (hb hby at_4) rfl ?_
    exact k
  obtain ⟨c, hc⟩ : ∃ z : Int32, z = ((i0 &&& (65535 : Int32)).toUInt32.toUInt16.toUInt32.toInt32) := ⟨_, rfl⟩
  rw [← hc] at pre1
  have bc := c_i2c (i0 &&& 65535)
  rw [← hc] at bc
  have pre2 : ∀ t, own_s p e below s₁ m 10 #[iv i0, iv c, .unset, .unset, .unset] [(.int (c ||| (32 : Int32)))] t → Steps p.tables e below S0 t := by
    intro t k
    refine pre1 _ ?_
    show own_s p e below s₁ m 5 #[iv i0, .unset, .unset, .unset, .unset] [(.int c)] _
    refine XS.istoreN X0.here hx rfl (hb hby at_5) rfl (l' := #[iv i0, iv c, .unset, .unset, .unset]) rfl ?_
    show own_s p e below s₁ m 6 #[iv i0, iv c, .unset, .unset, .unset] [] _
    refine XS.iloadN X0.here hx rfl (hb hby at_6) rfl ?_
    show own_s p e below s₁ m 7 #[iv i0, iv c, .unset, .unset, .unset] [(.int c)] _
    refine XS.bipush X0.here hx rfl (hb hby at_7) ?_
    show own_s p e below s₁ m 9 #[iv i0, iv c, .unset, .unset, .unset] [(.int (32 : Int32)), (.int c)] _
    refine XS.ior X0.here hx rfl (hb hby at_9) rfl ?_
    exact k
  obtain ⟨fd, hfd⟩ : ∃ z : Int32, z = (c ||| (32 : Int32)) := ⟨_, rfl⟩
  rw [← hfd] at pre2
  have bf : fd.toInt = c.toInt + 32 - 32 * ((c.toInt / 32) % 2) := by rw [hfd]; exact own_or32 c bc.2.1
  have pre3 : ∀ t, own_s p e below s₁ m 14 #[iv i0, iv c, iv fd, .unset, .unset] [(.int (97 : Int32)), (.int fd)] t → Steps p.tables e below S0 t := by
    intro t k
    refine pre2 _ ?_
    show own_s p e below s₁ m 10 #[iv i0, iv c, .unset, .unset, .unset] [(.int fd)] _
    refine XS.istoreN X0.here hx rfl (hb hby at_10) rfl (l' := #[iv i0, iv c, iv fd, .unset, .unset]) rfl ?_
    show own_s p e below s₁ m 11 #[iv i0, iv c, iv fd, .unset, .unset] [] _
    refine XS.iloadN X0.here hx rfl (hb hby at_11) rfl ?_
    show own_s p e below s₁ m 12 #[iv i0, iv c, iv fd, .unset, .unset] [(.int fd)] _
    refine XS.bipush X0.here hx rfl (hb hby at_12) ?_
    exact k
  by_cases hc4 : fd < (97 : Int32)
  · skip
    have ihc4 : (fd).toInt < (97 : Int) := Int32.lt_iff_toInt_lt.mp hc4
    have pre5 : ∀ t, own_s p e below s₁ m 36 #[iv i0, iv c, iv fd, iv (0 : Int32), .unset] [(.int (95 : Int32)), (.int c)] t → Steps p.tables e below S0 t := by
      intro t k
      refine pre3 _ ?_
      show own_s p e below s₁ m 14 #[iv i0, iv c, iv fd, .unset, .unset] [(.int (97 : Int32)), (.int fd)] _
      refine XS.icmpYes X0.here hx rfl (pc0 := 14) (pc' := 27) rfl (hb hby at_14) rfl (tlt hc4).1 (by decide) (by decide) ?_
      show own_s p e below s₁ m 27 #[iv i0, iv c, iv fd, .unset, .unset] [] _
      refine XS.iconst X0.here hx rfl (hb hby at_27) ?_
      show own_s p e below s₁ m 28 #[iv i0, iv c, iv fd, .unset, .unset] [(.int (0 : Int32))] _
      refine XS.istoreN X0.here hx rfl (hb hby at_28) rfl (l' := #[iv i0, iv c, iv fd, iv (0 : Int32), .unset]) rfl ?_
      show own_s p e below s₁ m 29 #[iv i0, iv c, iv fd, iv (0 : Int32), .unset] [] _
      refine XS.iloadN X0.here hx rfl (hb hby at_29) rfl ?_
      show own_s p e below s₁ m 30 #[iv i0, iv c, iv fd, iv (0 : Int32), .unset] [(.int (0 : Int32))] _
      refine XS.ifNo X0.here hx rfl (hb hby at_30) rfl ((if0 _ _).trans (teq (by decide : (0 : Int32) = (0 : Int32))).2) ?_
      show own_s p e below s₁ m 33 #[iv i0, iv c, iv fd, iv (0 : Int32), .unset] [] _
      refine XS.iloadN X0.here hx rfl (hb hby at_33) rfl ?_
      show own_s p e below s₁ m 34 #[iv i0, iv c, iv fd, iv (0 : Int32), .unset] [(.int c)] _
      refine XS.bipush X0.here hx rfl (hb hby at_34) ?_
      exact k
    by_cases hc6 : c = (95 : Int32)
    · skip
      have ihc6 : (c).toInt = (95 : Int) := congrArg Int32.toInt hc6
      have pre7 : ∀ t, own_s p e below s₁ m 47 #[iv i0, iv c, iv fd, iv (0 : Int32), iv (1 : Int32)] [(.int c)] t → Steps p.tables e below S0 t := by
        intro t k
        refine pre5 _ ?_
        show own_s p e below s₁ m 36 #[iv i0, iv c, iv fd, iv (0 : Int32), .unset] [(.int (95 : Int32)), (.int c)] _
        refine XS.icmpNo X0.here hx rfl (hb hby at_36) rfl (teq hc6).2 ?_
        show own_s p e below s₁ m 39 #[iv i0, iv c, iv fd, iv (0 : Int32), .unset] [] _
        refine XS.iconst X0.here hx rfl (hb hby at_39) ?_
        show own_s p e below s₁ m 40 #[iv i0, iv c, iv fd, iv (0 : Int32), .unset] [(.int (1 : Int32))] _
        refine XS.goto X0.here hx rfl (pc0 := 40) (pc' := 44) rfl (hb hby at_40) (by decide) (by decide) ?_
        show own_s p e below s₁ m 44 #[iv i0, iv c, iv fd, iv (0 : Int32), .unset] [(.int (1 : Int32))] _
        refine XS.istore X0.here hx rfl (hb hby at_44) rfl (l' := #[iv i0, iv c, iv fd, iv (0 : Int32), iv (1 : Int32)]) rfl ?_
        show own_s p e below s₁ m 46 #[iv i0, iv c, iv fd, iv (0 : Int32), iv (1 : Int32)] [] _
        refine XS.iloadN X0.here hx rfl (hb hby at_46) rfl ?_
        exact k
      obtain ⟨_, _, ⟨T8, L8, k8, n8⟩, -, X8, ⟨Lc8, hQ8, l8, y8, z8⟩, st8⟩ := Jvm.LawKit.callS X0 hx (y := (⟨"com/example/since/since/formula/Names", "isNameStart", "(C)Z"⟩ : MethodName)) hown (mvT hZ (hw _ (List.mem_of_getElem? (i := 1) rfl))) (mvT hZ (hw _ (List.mem_of_getElem? (i := 2) rfl))) (mvT hZ (hw _ (List.mem_of_getElem? (i := 3) rfl))) (mvT hZ (hw _ (List.mem_of_getElem? (i := 4) rfl))) (by decide) (backOf (W := 0) (rm1 l Z a0 hw [] c  h0 n0 Z0 ) hZ (hw _ (List.mem_of_getElem? (i := 4) rfl)) (hw _ (List.mem_of_getElem? (i := 3) rfl)) (by decide) (by decide)) (g := (mkF m 47 #[iv i0, iv c, iv fd, iv (0 : Int32), iv (1 : Int32)] [(.int c)])) rfl (by rw [hml]; rfl) (argsL := [(.int c)]) (rest := []) (lenOf pd0_0 rfl) rfl (by show 2 * 0 + _ ≤ _; exact Nat.le_of_eq rfl) (hb hby at_47) (fun _ _ => ⟨rfl, e0, (by decide : 0 + 0 ≤ _), (by decide : 0 + 0 ≤ _)⟩)
      dsimp only [Pt.U, Pt.locs, Pt.cells, Pt.slots] at X8 l8 y8 z8 st8 hQ8
      subst l8 y8 z8
      obtain ⟨rfl, Nq8, e8⟩ := hQ8
      have N8 := Fr.app N0 Nq8
      have pre9 : ∀ t, own_s p e below T8 m 50 #[iv i0, iv c, iv fd, iv (0 : Int32), iv (1 : Int32)] [(.int (own_ns c))] t → Steps p.tables e below S0 t := fun t k => pre7 _ (st8 _ k)
      have pre10 : ∀ t, own_s p e below T8 m 60 #[iv i0, iv c, iv fd, iv (0 : Int32), iv (1 : Int32)] [(.int (1 : Int32))] t → Steps p.tables e below S0 t := by
        intro t k
        refine pre9 _ ?_
        show own_s p e below T8 m 50 #[iv i0, iv c, iv fd, iv (0 : Int32), iv (1 : Int32)] [(.int (own_ns c))] _
        refine XS.iload X8.here hx rfl (hb hby at_50) rfl ?_
        show own_s p e below T8 m 52 #[iv i0, iv c, iv fd, iv (0 : Int32), iv (1 : Int32)] [(.int (1 : Int32)), (.int (own_ns c))] _
        refine XS.icmpNo X8.here hx rfl (hb hby at_52) rfl (teq (show (own_ns c) = (1 : Int32) from by unfold own_ns; rw [if_pos (by omega)])).2 ?_
        show own_s p e below T8 m 55 #[iv i0, iv c, iv fd, iv (0 : Int32), iv (1 : Int32)] [] _
        refine XS.iconst X8.here hx rfl (hb hby at_55) ?_
        show own_s p e below T8 m 56 #[iv i0, iv c, iv fd, iv (0 : Int32), iv (1 : Int32)] [(.int (1 : Int32))] _
        refine XS.goto X8.here hx rfl (pc0 := 56) (pc' := 60) rfl (hb hby at_56) (by decide) (by decide) ?_
        exact k
      subst hS0
      obtain ⟨fs, hr, hrun, hended, hW, hsame⟩ := X8.leave (v := (some (.int (1 : Int32)))) (fun h => by rw [Bd.returns] at h; cases h)
      refine ⟨_, _, pre10 _ (retN X8 hx (t := .boolean) Bd.returns (by simp) (hb hby at_60) hr), hrun, hended, _, _, rfl, ?_, ⟨_, rfl⟩, hW, hsame.mono (by decide) (by decide)⟩
      show Q0 Z i0 h0 n0 (some (.int (1 : Int32))) T8.heap _
      exact ⟨rfl, N8⟩
    · skip
      have ihc6 : ¬ ((c).toInt = (95 : Int)) := fun q => hc6 (Int32.toInt_inj.mp q)
      have pre11 : ∀ t, own_s p e below s₁ m 47 #[iv i0, iv c, iv fd, iv (0 : Int32), iv (0 : Int32)] [(.int c)] t → Steps p.tables e below S0 t := by
        intro t k
        refine pre5 _ ?_
        show own_s p e below s₁ m 36 #[iv i0, iv c, iv fd, iv (0 : Int32), .unset] [(.int (95 : Int32)), (.int c)] _
        refine XS.icmpYes X0.here hx rfl (pc0 := 36) (pc' := 43) rfl (hb hby at_36) rfl (feq hc6).2 (by decide) (by decide) ?_
        show own_s p e below s₁ m 43 #[iv i0, iv c, iv fd, iv (0 : Int32), .unset] [] _
        refine XS.iconst X0.here hx rfl (hb hby at_43) ?_
        show own_s p e below s₁ m 44 #[iv i0, iv c, iv fd, iv (0 : Int32), .unset] [(.int (0 : Int32))] _
        refine XS.istore X0.here hx rfl (hb hby at_44) rfl (l' := #[iv i0, iv c, iv fd, iv (0 : Int32), iv (0 : Int32)]) rfl ?_
        show own_s p e below s₁ m 46 #[iv i0, iv c, iv fd, iv (0 : Int32), iv (0 : Int32)] [] _
        refine XS.iloadN X0.here hx rfl (hb hby at_46) rfl ?_
        exact k
      obtain ⟨_, _, ⟨T12, L12, k12, n12⟩, -, X12, ⟨Lc12, hQ12, l12, y12, z12⟩, st12⟩ := Jvm.LawKit.callS X0 hx (y := (⟨"com/example/since/since/formula/Names", "isNameStart", "(C)Z"⟩ : MethodName)) hown (mvT hZ (hw _ (List.mem_of_getElem? (i := 1) rfl))) (mvT hZ (hw _ (List.mem_of_getElem? (i := 2) rfl))) (mvT hZ (hw _ (List.mem_of_getElem? (i := 3) rfl))) (mvT hZ (hw _ (List.mem_of_getElem? (i := 4) rfl))) (by decide) (backOf (W := 0) (rm1 l Z a0 hw [] c  h0 n0 Z0 ) hZ (hw _ (List.mem_of_getElem? (i := 4) rfl)) (hw _ (List.mem_of_getElem? (i := 3) rfl)) (by decide) (by decide)) (g := (mkF m 47 #[iv i0, iv c, iv fd, iv (0 : Int32), iv (0 : Int32)] [(.int c)])) rfl (by rw [hml]; rfl) (argsL := [(.int c)]) (rest := []) (lenOf pd0_0 rfl) rfl (by show 2 * 0 + _ ≤ _; exact Nat.le_of_eq rfl) (hb hby at_47) (fun _ _ => ⟨rfl, e0, (by decide : 0 + 0 ≤ _), (by decide : 0 + 0 ≤ _)⟩)
      dsimp only [Pt.U, Pt.locs, Pt.cells, Pt.slots] at X12 l12 y12 z12 st12 hQ12
      subst l12 y12 z12
      obtain ⟨rfl, Nq12, e12⟩ := hQ12
      have N12 := Fr.app N0 Nq12
      have pre13 : ∀ t, own_s p e below T12 m 50 #[iv i0, iv c, iv fd, iv (0 : Int32), iv (0 : Int32)] [(.int (own_ns c))] t → Steps p.tables e below S0 t := fun t k => pre11 _ (st12 _ k)
      have pre14 : ∀ t, own_s p e below T12 m 60 #[iv i0, iv c, iv fd, iv (0 : Int32), iv (0 : Int32)] [(.int (1 : Int32))] t → Steps p.tables e below S0 t := by
        intro t k
        refine pre13 _ ?_
        show own_s p e below T12 m 50 #[iv i0, iv c, iv fd, iv (0 : Int32), iv (0 : Int32)] [(.int (own_ns c))] _
        refine XS.iload X12.here hx rfl (hb hby at_50) rfl ?_
        show own_s p e below T12 m 52 #[iv i0, iv c, iv fd, iv (0 : Int32), iv (0 : Int32)] [(.int (0 : Int32)), (.int (own_ns c))] _
        refine XS.icmpNo X12.here hx rfl (hb hby at_52) rfl (teq (show (own_ns c) = (0 : Int32) from by unfold own_ns; rw [if_neg (by omega)])).2 ?_
        show own_s p e below T12 m 55 #[iv i0, iv c, iv fd, iv (0 : Int32), iv (0 : Int32)] [] _
        refine XS.iconst X12.here hx rfl (hb hby at_55) ?_
        show own_s p e below T12 m 56 #[iv i0, iv c, iv fd, iv (0 : Int32), iv (0 : Int32)] [(.int (1 : Int32))] _
        refine XS.goto X12.here hx rfl (pc0 := 56) (pc' := 60) rfl (hb hby at_56) (by decide) (by decide) ?_
        exact k
      subst hS0
      obtain ⟨fs, hr, hrun, hended, hW, hsame⟩ := X12.leave (v := (some (.int (1 : Int32)))) (fun h => by rw [Bd.returns] at h; cases h)
      refine ⟨_, _, pre14 _ (retN X12 hx (t := .boolean) Bd.returns (by simp) (hb hby at_60) hr), hrun, hended, _, _, rfl, ?_, ⟨_, rfl⟩, hW, hsame.mono (by decide) (by decide)⟩
      show Q0 Z i0 h0 n0 (some (.int (1 : Int32))) T12.heap _
      exact ⟨rfl, N12⟩
  · skip
    have ihc4 : ¬ ((fd).toInt < (97 : Int)) := fun q => hc4 (Int32.lt_iff_toInt_lt.mpr q)
    have pre15 : ∀ t, own_s p e below s₁ m 20 #[iv i0, iv c, iv fd, .unset, .unset] [(.int (122 : Int32)), (.int fd)] t → Steps p.tables e below S0 t := by
      intro t k
      refine pre3 _ ?_
      show own_s p e below s₁ m 14 #[iv i0, iv c, iv fd, .unset, .unset] [(.int (97 : Int32)), (.int fd)] _
      refine XS.icmpNo X0.here hx rfl (hb hby at_14) rfl (flt hc4).1 ?_
      show own_s p e below s₁ m 17 #[iv i0, iv c, iv fd, .unset, .unset] [] _
      refine XS.iloadN X0.here hx rfl (hb hby at_17) rfl ?_
      show own_s p e below s₁ m 18 #[iv i0, iv c, iv fd, .unset, .unset] [(.int fd)] _
      refine XS.bipush X0.here hx rfl (hb hby at_18) ?_
      exact k
    by_cases hc16 : (122 : Int32) < fd
    · skip
      have ihc16 : (122 : Int) < (fd).toInt := Int32.lt_iff_toInt_lt.mp hc16
      have pre17 : ∀ t, own_s p e below s₁ m 36 #[iv i0, iv c, iv fd, iv (0 : Int32), .unset] [(.int (95 : Int32)), (.int c)] t → Steps p.tables e below S0 t := by
        intro t k
        refine pre15 _ ?_
        show own_s p e below s₁ m 20 #[iv i0, iv c, iv fd, .unset, .unset] [(.int (122 : Int32)), (.int fd)] _
        refine XS.icmpYes X0.here hx rfl (pc0 := 20) (pc' := 27) rfl (hb hby at_20) rfl (tlt hc16).2.2.1 (by decide) (by decide) ?_
        show own_s p e below s₁ m 27 #[iv i0, iv c, iv fd, .unset, .unset] [] _
        refine XS.iconst X0.here hx rfl (hb hby at_27) ?_
        show own_s p e below s₁ m 28 #[iv i0, iv c, iv fd, .unset, .unset] [(.int (0 : Int32))] _
        refine XS.istoreN X0.here hx rfl (hb hby at_28) rfl (l' := #[iv i0, iv c, iv fd, iv (0 : Int32), .unset]) rfl ?_
        show own_s p e below s₁ m 29 #[iv i0, iv c, iv fd, iv (0 : Int32), .unset] [] _
        refine XS.iloadN X0.here hx rfl (hb hby at_29) rfl ?_
        show own_s p e below s₁ m 30 #[iv i0, iv c, iv fd, iv (0 : Int32), .unset] [(.int (0 : Int32))] _
        refine XS.ifNo X0.here hx rfl (hb hby at_30) rfl ((if0 _ _).trans (teq (by decide : (0 : Int32) = (0 : Int32))).2) ?_
        show own_s p e below s₁ m 33 #[iv i0, iv c, iv fd, iv (0 : Int32), .unset] [] _
        refine XS.iloadN X0.here hx rfl (hb hby at_33) rfl ?_
        show own_s p e below s₁ m 34 #[iv i0, iv c, iv fd, iv (0 : Int32), .unset] [(.int c)] _
        refine XS.bipush X0.here hx rfl (hb hby at_34) ?_
        exact k
      by_cases hc18 : c = (95 : Int32)
      · skip
        have ihc18 : (c).toInt = (95 : Int) := congrArg Int32.toInt hc18
        have pre19 : ∀ t, own_s p e below s₁ m 47 #[iv i0, iv c, iv fd, iv (0 : Int32), iv (1 : Int32)] [(.int c)] t → Steps p.tables e below S0 t := by
          intro t k
          refine pre17 _ ?_
          show own_s p e below s₁ m 36 #[iv i0, iv c, iv fd, iv (0 : Int32), .unset] [(.int (95 : Int32)), (.int c)] _
          refine XS.icmpNo X0.here hx rfl (hb hby at_36) rfl (teq hc18).2 ?_
          show own_s p e below s₁ m 39 #[iv i0, iv c, iv fd, iv (0 : Int32), .unset] [] _
          refine XS.iconst X0.here hx rfl (hb hby at_39) ?_
          show own_s p e below s₁ m 40 #[iv i0, iv c, iv fd, iv (0 : Int32), .unset] [(.int (1 : Int32))] _
          refine XS.goto X0.here hx rfl (pc0 := 40) (pc' := 44) rfl (hb hby at_40) (by decide) (by decide) ?_
          show own_s p e below s₁ m 44 #[iv i0, iv c, iv fd, iv (0 : Int32), .unset] [(.int (1 : Int32))] _
          refine XS.istore X0.here hx rfl (hb hby at_44) rfl (l' := #[iv i0, iv c, iv fd, iv (0 : Int32), iv (1 : Int32)]) rfl ?_
          show own_s p e below s₁ m 46 #[iv i0, iv c, iv fd, iv (0 : Int32), iv (1 : Int32)] [] _
          refine XS.iloadN X0.here hx rfl (hb hby at_46) rfl ?_
          exact k
        obtain ⟨_, _, ⟨T20, L20, k20, n20⟩, -, X20, ⟨Lc20, hQ20, l20, y20, z20⟩, st20⟩ := Jvm.LawKit.callS X0 hx (y := (⟨"com/example/since/since/formula/Names", "isNameStart", "(C)Z"⟩ : MethodName)) hown (mvT hZ (hw _ (List.mem_of_getElem? (i := 1) rfl))) (mvT hZ (hw _ (List.mem_of_getElem? (i := 2) rfl))) (mvT hZ (hw _ (List.mem_of_getElem? (i := 3) rfl))) (mvT hZ (hw _ (List.mem_of_getElem? (i := 4) rfl))) (by decide) (backOf (W := 0) (rm1 l Z a0 hw [] c  h0 n0 Z0 ) hZ (hw _ (List.mem_of_getElem? (i := 4) rfl)) (hw _ (List.mem_of_getElem? (i := 3) rfl)) (by decide) (by decide)) (g := (mkF m 47 #[iv i0, iv c, iv fd, iv (0 : Int32), iv (1 : Int32)] [(.int c)])) rfl (by rw [hml]; rfl) (argsL := [(.int c)]) (rest := []) (lenOf pd0_0 rfl) rfl (by show 2 * 0 + _ ≤ _; exact Nat.le_of_eq rfl) (hb hby at_47) (fun _ _ => ⟨rfl, e0, (by decide : 0 + 0 ≤ _), (by decide : 0 + 0 ≤ _)⟩)
        dsimp only [Pt.U, Pt.locs, Pt.cells, Pt.slots] at X20 l20 y20 z20 st20 hQ20
        subst l20 y20 z20
        obtain ⟨rfl, Nq20, e20⟩ := hQ20
        have N20 := Fr.app N0 Nq20
        have pre21 : ∀ t, own_s p e below T20 m 50 #[iv i0, iv c, iv fd, iv (0 : Int32), iv (1 : Int32)] [(.int (own_ns c))] t → Steps p.tables e below S0 t := fun t k => pre19 _ (st20 _ k)
        have pre22 : ∀ t, own_s p e below T20 m 60 #[iv i0, iv c, iv fd, iv (0 : Int32), iv (1 : Int32)] [(.int (1 : Int32))] t → Steps p.tables e below S0 t := by
          intro t k
          refine pre21 _ ?_
          show own_s p e below T20 m 50 #[iv i0, iv c, iv fd, iv (0 : Int32), iv (1 : Int32)] [(.int (own_ns c))] _
          refine XS.iload X20.here hx rfl (hb hby at_50) rfl ?_
          show own_s p e below T20 m 52 #[iv i0, iv c, iv fd, iv (0 : Int32), iv (1 : Int32)] [(.int (1 : Int32)), (.int (own_ns c))] _
          refine XS.icmpNo X20.here hx rfl (hb hby at_52) rfl (teq (show (own_ns c) = (1 : Int32) from by unfold own_ns; rw [if_pos (by omega)])).2 ?_
          show own_s p e below T20 m 55 #[iv i0, iv c, iv fd, iv (0 : Int32), iv (1 : Int32)] [] _
          refine XS.iconst X20.here hx rfl (hb hby at_55) ?_
          show own_s p e below T20 m 56 #[iv i0, iv c, iv fd, iv (0 : Int32), iv (1 : Int32)] [(.int (1 : Int32))] _
          refine XS.goto X20.here hx rfl (pc0 := 56) (pc' := 60) rfl (hb hby at_56) (by decide) (by decide) ?_
          exact k
        subst hS0
        obtain ⟨fs, hr, hrun, hended, hW, hsame⟩ := X20.leave (v := (some (.int (1 : Int32)))) (fun h => by rw [Bd.returns] at h; cases h)
        refine ⟨_, _, pre22 _ (retN X20 hx (t := .boolean) Bd.returns (by simp) (hb hby at_60) hr), hrun, hended, _, _, rfl, ?_, ⟨_, rfl⟩, hW, hsame.mono (by decide) (by decide)⟩
        show Q0 Z i0 h0 n0 (some (.int (1 : Int32))) T20.heap _
        exact ⟨rfl, N20⟩
      · skip
        have ihc18 : ¬ ((c).toInt = (95 : Int)) := fun q => hc18 (Int32.toInt_inj.mp q)
        have pre23 : ∀ t, own_s p e below s₁ m 47 #[iv i0, iv c, iv fd, iv (0 : Int32), iv (0 : Int32)] [(.int c)] t → Steps p.tables e below S0 t := by
          intro t k
          refine pre17 _ ?_
          show own_s p e below s₁ m 36 #[iv i0, iv c, iv fd, iv (0 : Int32), .unset] [(.int (95 : Int32)), (.int c)] _
          refine XS.icmpYes X0.here hx rfl (pc0 := 36) (pc' := 43) rfl (hb hby at_36) rfl (feq hc18).2 (by decide) (by decide) ?_
          show own_s p e below s₁ m 43 #[iv i0, iv c, iv fd, iv (0 : Int32), .unset] [] _
          refine XS.iconst X0.here hx rfl (hb hby at_43) ?_
          show own_s p e below s₁ m 44 #[iv i0, iv c, iv fd, iv (0 : Int32), .unset] [(.int (0 : Int32))] _
          refine XS.istore X0.here hx rfl (hb hby at_44) rfl (l' := #[iv i0, iv c, iv fd, iv (0 : Int32), iv (0 : Int32)]) rfl ?_
          show own_s p e below s₁ m 46 #[iv i0, iv c, iv fd, iv (0 : Int32), iv (0 : Int32)] [] _
          refine XS.iloadN X0.here hx rfl (hb hby at_46) rfl ?_
          exact k
        obtain ⟨_, _, ⟨T24, L24, k24, n24⟩, -, X24, ⟨Lc24, hQ24, l24, y24, z24⟩, st24⟩ := Jvm.LawKit.callS X0 hx (y := (⟨"com/example/since/since/formula/Names", "isNameStart", "(C)Z"⟩ : MethodName)) hown (mvT hZ (hw _ (List.mem_of_getElem? (i := 1) rfl))) (mvT hZ (hw _ (List.mem_of_getElem? (i := 2) rfl))) (mvT hZ (hw _ (List.mem_of_getElem? (i := 3) rfl))) (mvT hZ (hw _ (List.mem_of_getElem? (i := 4) rfl))) (by decide) (backOf (W := 0) (rm1 l Z a0 hw [] c  h0 n0 Z0 ) hZ (hw _ (List.mem_of_getElem? (i := 4) rfl)) (hw _ (List.mem_of_getElem? (i := 3) rfl)) (by decide) (by decide)) (g := (mkF m 47 #[iv i0, iv c, iv fd, iv (0 : Int32), iv (0 : Int32)] [(.int c)])) rfl (by rw [hml]; rfl) (argsL := [(.int c)]) (rest := []) (lenOf pd0_0 rfl) rfl (by show 2 * 0 + _ ≤ _; exact Nat.le_of_eq rfl) (hb hby at_47) (fun _ _ => ⟨rfl, e0, (by decide : 0 + 0 ≤ _), (by decide : 0 + 0 ≤ _)⟩)
        dsimp only [Pt.U, Pt.locs, Pt.cells, Pt.slots] at X24 l24 y24 z24 st24 hQ24
        subst l24 y24 z24
        obtain ⟨rfl, Nq24, e24⟩ := hQ24
        have N24 := Fr.app N0 Nq24
        have pre25 : ∀ t, own_s p e below T24 m 50 #[iv i0, iv c, iv fd, iv (0 : Int32), iv (0 : Int32)] [(.int (own_ns c))] t → Steps p.tables e below S0 t := fun t k => pre23 _ (st24 _ k)
        have pre26 : ∀ t, own_s p e below T24 m 60 #[iv i0, iv c, iv fd, iv (0 : Int32), iv (0 : Int32)] [(.int (1 : Int32))] t → Steps p.tables e below S0 t := by
          intro t k
          refine pre25 _ ?_
          show own_s p e below T24 m 50 #[iv i0, iv c, iv fd, iv (0 : Int32), iv (0 : Int32)] [(.int (own_ns c))] _
          refine XS.iload X24.here hx rfl (hb hby at_50) rfl ?_
          show own_s p e below T24 m 52 #[iv i0, iv c, iv fd, iv (0 : Int32), iv (0 : Int32)] [(.int (0 : Int32)), (.int (own_ns c))] _
          refine XS.icmpNo X24.here hx rfl (hb hby at_52) rfl (teq (show (own_ns c) = (0 : Int32) from by unfold own_ns; rw [if_neg (by omega)])).2 ?_
          show own_s p e below T24 m 55 #[iv i0, iv c, iv fd, iv (0 : Int32), iv (0 : Int32)] [] _
          refine XS.iconst X24.here hx rfl (hb hby at_55) ?_
          show own_s p e below T24 m 56 #[iv i0, iv c, iv fd, iv (0 : Int32), iv (0 : Int32)] [(.int (1 : Int32))] _
          refine XS.goto X24.here hx rfl (pc0 := 56) (pc' := 60) rfl (hb hby at_56) (by decide) (by decide) ?_
          exact k
        subst hS0
        obtain ⟨fs, hr, hrun, hended, hW, hsame⟩ := X24.leave (v := (some (.int (1 : Int32)))) (fun h => by rw [Bd.returns] at h; cases h)
        refine ⟨_, _, pre26 _ (retN X24 hx (t := .boolean) Bd.returns (by simp) (hb hby at_60) hr), hrun, hended, _, _, rfl, ?_, ⟨_, rfl⟩, hW, hsame.mono (by decide) (by decide)⟩
        show Q0 Z i0 h0 n0 (some (.int (1 : Int32))) T24.heap _
        exact ⟨rfl, N24⟩
    · skip
      have ihc16 : ¬ ((122 : Int) < (fd).toInt) := fun q => hc16 (Int32.lt_iff_toInt_lt.mpr q)
      have pre27 : ∀ t, own_s p e below s₁ m 47 #[iv i0, iv c, iv fd, iv (1 : Int32), iv (1 : Int32)] [(.int c)] t → Steps p.tables e below S0 t := by
        intro t k
        refine pre15 _ ?_
        show own_s p e below s₁ m 20 #[iv i0, iv c, iv fd, .unset, .unset] [(.int (122 : Int32)), (.int fd)] _
        refine XS.icmpNo X0.here hx rfl (hb hby at_20) rfl (flt hc16).2.2.1 ?_
        show own_s p e below s₁ m 23 #[iv i0, iv c, iv fd, .unset, .unset] [] _
        refine XS.iconst X0.here hx rfl (hb hby at_23) ?_
        show own_s p e below s₁ m 24 #[iv i0, iv c, iv fd, .unset, .unset] [(.int (1 : Int32))] _
        refine XS.goto X0.here hx rfl (pc0 := 24) (pc' := 28) rfl (hb hby at_24) (by decide) (by decide) ?_
        show own_s p e below s₁ m 28 #[iv i0, iv c, iv fd, .unset, .unset] [(.int (1 : Int32))] _
        refine XS.istoreN X0.here hx rfl (hb hby at_28) rfl (l' := #[iv i0, iv c, iv fd, iv (1 : Int32), .unset]) rfl ?_
        show own_s p e below s₁ m 29 #[iv i0, iv c, iv fd, iv (1 : Int32), .unset] [] _
        refine XS.iloadN X0.here hx rfl (hb hby at_29) rfl ?_
        show own_s p e below s₁ m 30 #[iv i0, iv c, iv fd, iv (1 : Int32), .unset] [(.int (1 : Int32))] _
        refine XS.ifYes X0.here hx rfl (pc0 := 30) (pc' := 39) rfl (hb hby at_30) rfl ((if0 _ _).trans (feq (by decide : ¬ ((1 : Int32) = (0 : Int32)))).2) (by decide) (by decide) ?_
        show own_s p e below s₁ m 39 #[iv i0, iv c, iv fd, iv (1 : Int32), .unset] [] _
        refine XS.iconst X0.here hx rfl (hb hby at_39) ?_
        show own_s p e below s₁ m 40 #[iv i0, iv c, iv fd, iv (1 : Int32), .unset] [(.int (1 : Int32))] _
        refine XS.goto X0.here hx rfl (pc0 := 40) (pc' := 44) rfl (hb hby at_40) (by decide) (by decide) ?_
        show own_s p e below s₁ m 44 #[iv i0, iv c, iv fd, iv (1 : Int32), .unset] [(.int (1 : Int32))] _
        refine XS.istore X0.here hx rfl (hb hby at_44) rfl (l' := #[iv i0, iv c, iv fd, iv (1 : Int32), iv (1 : Int32)]) rfl ?_
        show own_s p e below s₁ m 46 #[iv i0, iv c, iv fd, iv (1 : Int32), iv (1 : Int32)] [] _
        refine XS.iloadN X0.here hx rfl (hb hby at_46) rfl ?_
        exact k
      obtain ⟨_, _, ⟨T28, L28, k28, n28⟩, -, X28, ⟨Lc28, hQ28, l28, y28, z28⟩, st28⟩ := Jvm.LawKit.callS X0 hx (y := (⟨"com/example/since/since/formula/Names", "isNameStart", "(C)Z"⟩ : MethodName)) hown (mvT hZ (hw _ (List.mem_of_getElem? (i := 1) rfl))) (mvT hZ (hw _ (List.mem_of_getElem? (i := 2) rfl))) (mvT hZ (hw _ (List.mem_of_getElem? (i := 3) rfl))) (mvT hZ (hw _ (List.mem_of_getElem? (i := 4) rfl))) (by decide) (backOf (W := 0) (rm1 l Z a0 hw [] c  h0 n0 Z0 ) hZ (hw _ (List.mem_of_getElem? (i := 4) rfl)) (hw _ (List.mem_of_getElem? (i := 3) rfl)) (by decide) (by decide)) (g := (mkF m 47 #[iv i0, iv c, iv fd, iv (1 : Int32), iv (1 : Int32)] [(.int c)])) rfl (by rw [hml]; rfl) (argsL := [(.int c)]) (rest := []) (lenOf pd0_0 rfl) rfl (by show 2 * 0 + _ ≤ _; exact Nat.le_of_eq rfl) (hb hby at_47) (fun _ _ => ⟨rfl, e0, (by decide : 0 + 0 ≤ _), (by decide : 0 + 0 ≤ _)⟩)
      dsimp only [Pt.U, Pt.locs, Pt.cells, Pt.slots] at X28 l28 y28 z28 st28 hQ28
      subst l28 y28 z28
      obtain ⟨rfl, Nq28, e28⟩ := hQ28
      have N28 := Fr.app N0 Nq28
      have pre29 : ∀ t, own_s p e below T28 m 50 #[iv i0, iv c, iv fd, iv (1 : Int32), iv (1 : Int32)] [(.int (own_ns c))] t → Steps p.tables e below S0 t := fun t k => pre27 _ (st28 _ k)
      have pre30 : ∀ t, own_s p e below T28 m 60 #[iv i0, iv c, iv fd, iv (1 : Int32), iv (1 : Int32)] [(.int (1 : Int32))] t → Steps p.tables e below S0 t := by
        intro t k
        refine pre29 _ ?_
        show own_s p e below T28 m 50 #[iv i0, iv c, iv fd, iv (1 : Int32), iv (1 : Int32)] [(.int (own_ns c))] _
        refine XS.iload X28.here hx rfl (hb hby at_50) rfl ?_
        show own_s p e below T28 m 52 #[iv i0, iv c, iv fd, iv (1 : Int32), iv (1 : Int32)] [(.int (1 : Int32)), (.int (own_ns c))] _
        refine XS.icmpNo X28.here hx rfl (hb hby at_52) rfl (teq (show (own_ns c) = (1 : Int32) from by unfold own_ns; rw [if_pos (by omega)])).2 ?_
        show own_s p e below T28 m 55 #[iv i0, iv c, iv fd, iv (1 : Int32), iv (1 : Int32)] [] _
        refine XS.iconst X28.here hx rfl (hb hby at_55) ?_
        show own_s p e below T28 m 56 #[iv i0, iv c, iv fd, iv (1 : Int32), iv (1 : Int32)] [(.int (1 : Int32))] _
        refine XS.goto X28.here hx rfl (pc0 := 56) (pc' := 60) rfl (hb hby at_56) (by decide) (by decide) ?_
        exact k
      subst hS0
      obtain ⟨fs, hr, hrun, hended, hW, hsame⟩ := X28.leave (v := (some (.int (1 : Int32)))) (fun h => by rw [Bd.returns] at h; cases h)
      refine ⟨_, _, pre30 _ (retN X28 hx (t := .boolean) Bd.returns (by simp) (hb hby at_60) hr), hrun, hended, _, _, rfl, ?_, ⟨_, rfl⟩, hW, hsame.mono (by decide) (by decide)⟩
      show Q0 Z i0 h0 n0 (some (.int (1 : Int32))) T28.heap _
      exact ⟨rfl, N28⟩
set_option maxRecDepth 65536 in
set_option maxHeartbeats 40000000 in
theorem comes_1 {Post : Tables → Env → Array Value → State → Outcome → State → Prop} (hpost : ∀ tb e args s v u, (limb_1_1.after args s (.returned v) u = true ∧ limb_1_2.after args s (.returned v) u = true ∧ True) → FrameEnd s (.returned v) u (Jvm.fieldLocs frame_1_writes args s ++ Jvm.arrayLocs frame_1_arrays args s ++ Jvm.staticLocs frame_1_statics s) 0 0 → Post tb e args s (.returned v) u) :
    ArmFor flags0 classFile x code maxLocals ret World_1 tables_1 room_1 Calls_1 rest_1 Pre_1 Post := by
  intro l hfl _ _ p e ha hc hk s m args below hf hA hF happ hP
  obtain ⟨hcalls, hrest, hpre⟩ := hP
  obtain ⟨-, -, -, hnamed, -, -, -, hat⟩ := (Spec.applies_iff hf).mp happ
  obtain ⟨hg, hn⟩ := and_e (Cond.before_iff.mp (show (Jvm.Cond.and given_1 narrow_1).before args s = true from hpre))
  obtain ⟨hcnt, q0⟩ := and_e hg
  have ha0 := q0
  obtain ⟨w0, rfl⟩ : ∃ w0 : Value, args = #[w0] := by
    have hs : args.size = 1 := by simpa [Cond.value, given_1] using hcnt
    obtain ⟨L⟩ := args
    match L, hs with
    | [w0], _ => exact ⟨w0, rfl⟩
  have hw := fun d (hd : d ∈ tables_1) => atoms_spec (ws := Jvm.Cond.code x code maxLocals ret :: tables_1) hat d (List.mem_cons_of_mem _ hd)
  have hfit : Fit s := fun {y c} hc i hi => by
    obtain ⟨ha, rfl⟩ := Array.getElem?_eq_some_iff.mp hc
    have q := List.all_eq_true.mp ((Array.all_eq_true_iff_forall_mem.mp hF) _ (Array.getElem_mem ha)) i (List.mem_range.mpr hi)
    simpa [Array.getElem?_eq_getElem hi] using q
  obtain ⟨i0, ei0⟩ := is_v ha0
  obtain rfl : w0 = (.int i0) := Option.some.inj ei0
  obtain ⟨n, o, h1, h2, h3, _, L, rfl, ⟨rfl, N⟩, hq⟩ := rm0 l s _ hw tables_1 i0  s.heap s.heap.size (Nat.le_refl _)  p e ha hc hk s m _ below hf ((Spec.applies_iff_loose hf).mp happ).1 ⟨rfl, State.Warmed39.refl s, rfl⟩ trivial
  refine ⟨n, _, h1, h2, h3, hpost _ _ _ _ _ _ ⟨Cond.after_iff.mpr rfl, Cond.after_iff.mpr (eq_i res_at (Term.int_eval (1)) rfl), trivial⟩ ⟨hq.1, hq.2.1, (hq.2.2.sift fun y hy => Or.inr (N y hy)).mono (by decide) (by decide)⟩⟩
theorem main_1_1 : Claimed_1_1 := comes_1 fun _ _ _ _ _ _ h hF => ⟨h.1, hF⟩
theorem main_1_2 : Claimed_1_2 := comes_1 fun _ _ _ _ _ _ h hF => ⟨h.2.1, hF⟩
end Jvm.Pilot.@@N@@
namespace Jvm.Pilot.@@N@@
open Jvm Jvm.ClassFile Sem Op Lib Jvm.Free Jvm.Stand Jvm.Pilot.@@N@@.Jvm.D
/-! MADE BY PROGRAM (witnessworld.py) out of the Statement's table words and the real class files: 9 classes; the members and pool entries that the words name. The judged class is class 1, her method 1. -/
namespace start1
open Jvm.ClassFile
def u (s : String) : CpInfo := .utf8 (stringToUtf16 s)
/-- a pool by its gaps: so many unusable entries, then the entry; so many at the end -/
def gap : Nat → List CpInfo → List CpInfo
  | 0, r => r
  | n + 1, r => .unusable :: gap n r
def poolList (es : List (Nat × CpInfo)) (last : Nat) : List CpInfo := es.foldr (fun e r => gap e.1 (e.2 :: r)) (gap last [])
def pool (es : List (Nat × CpInfo)) (last : Nat) : Array CpInfo := ⟨poolList es last⟩
def fileOf (pool : Array CpInfo) (this : Nat) (attrs : Array Attribute := #[]) (ms : Array MethodInfo := #[]) (fl : Nat := 33) (sup : Nat := 0) (ifs : Array Nat := #[]) (fds : Array FieldInfo := #[]) : ClassFile where
  minorVersion := 0
  majorVersion := 65
  constantPool := pool
  accessFlags := fl
  thisClass := this
  superClass := sup
  interfaces := ifs
  fields := fds
  methods := ms
  attributes := attrs
def plain (name : String) (sup : Option ClassId) : Class where
  name := name
  kind := .ordinary
  loader := none
  accessFlags := 33
  super := sup
  interfaces := #[]
  cf := none
  fields := #[]
  methods := #[]
  instanceTypes := #[]
  staticTypes := #[]
  resolved := #[]
  callSites := []
  init := .initialized
  statics := none
  mirror := none

def pool0 : Array CpInfo := pool [(5, u "<init>"), (0, u "()V"), (1, .class_ 10), (1, u "java/lang/Object")] 113

def k0m0 : Method := { name := "<init>", desc := "()V", sig := { parameters := [], returnType := none }, accessFlags := 1, code := none }
/-- java/lang/Object -/
def k0 : Class := { plain "java/lang/Object" none with
  accessFlags := 33
  interfaces := #[]
  cf := some (fileOf pool0 8 #[] #[{ accessFlags := 1, nameIndex := 5, descriptorIndex := 6, attributes := #[] }] 33 0 #[] #[])
  fields := #[]
  methods := #[k0m0]
  instanceTypes := #[]
  staticTypes := #[]
  resolved := Array.replicate 124 none
  statics := none }

def pool1 : Array CpInfo := pool [(2, .class_ 4), (1, u "java/lang/Object"), (0, u "<init>"), (0, u "()V"), (0, .integer 65535), (0, .methodref 9 10), (0, .class_ 11), (0, .nameAndType 12 13), (0, u "com/example/since/since/formula/Names"), (0, u "isNameStart"), (0, u "(C)Z"), (0, .class_ 15), (0, u "com/example/since/since/formula/NamesIsNameStartPinLaw"), (2, u "law"), (0, u "(I)Z")] 3

def k1m0 : Method := { name := "<init>", desc := "()V", sig := { parameters := [], returnType := none }, accessFlags := 2, code := none }
def k1c1 : Code := { maxStack := 2, maxLocals := 5, code := code, exceptionTable := #[], attributes := #[] }
def k1m1 : Method := { name := "law", desc := "(I)Z", sig := { parameters := [.int], returnType := some .boolean }, accessFlags := 9, code := some k1c1 }
/-- com/example/since/since/formula/NamesIsNameStartPinLaw -/
def k1 : Class := { plain "com/example/since/since/formula/NamesIsNameStartPinLaw" (some 0) with
  accessFlags := 49
  interfaces := #[]
  cf := some (fileOf pool1 14 #[] #[{ accessFlags := 2, nameIndex := 5, descriptorIndex := 6, attributes := #[] }, { accessFlags := 9, nameIndex := 18, descriptorIndex := 19, attributes := #[] }] 49 2 #[] #[])
  fields := #[]
  methods := #[k1m0, k1m1]
  instanceTypes := #[]
  staticTypes := #[]
  resolved := Array.replicate 23 none
  statics := none }

def pool2 : Array CpInfo := pool [(2, .class_ 4), (1, u "java/lang/Object"), (0, u "<init>"), (0, u "()V"), (1, .class_ 10), (1, u "com/example/since/since/formula/Names"), (0, u "isNameStart"), (0, u "(C)Z")] 64

def k2m0 : Method := { name := "<init>", desc := "()V", sig := { parameters := [], returnType := none }, accessFlags := 2, code := none }
def k2c1 : Code := { maxStack := 2, maxLocals := 1, code := prog_40_method_2_code, exceptionTable := #[], attributes := #[] }
def k2m1 : Method := { name := "isNameStart", desc := "(C)Z", sig := { parameters := [.char], returnType := some .boolean }, accessFlags := 9, code := some k2c1 }
/-- com/example/since/since/formula/Names -/
def k2 : Class := { plain "com/example/since/since/formula/Names" (some 0) with
  accessFlags := 49
  interfaces := #[]
  cf := some (fileOf pool2 8 #[] #[{ accessFlags := 2, nameIndex := 5, descriptorIndex := 6, attributes := #[] }, { accessFlags := 9, nameIndex := 11, descriptorIndex := 12, attributes := #[] }] 49 2 #[] #[])
  fields := #[]
  methods := #[k2m0, k2m1]
  instanceTypes := #[]
  staticTypes := #[]
  resolved := Array.replicate 77 none
  statics := none }

def pool3 : Array CpInfo := pool [(1, u "java/lang/Cloneable"), (0, .class_ 1), (0, u "java/lang/Object"), (0, .class_ 3)] 3

/-- java/lang/Cloneable -/
def k3 : Class := { plain "java/lang/Cloneable" (some 0) with
  accessFlags := 1537
  interfaces := #[]
  cf := some (fileOf pool3 2 #[] #[] 1537 4 #[] #[])
  fields := #[]
  methods := #[]
  instanceTypes := #[]
  staticTypes := #[]
  resolved := Array.replicate 8 none
  statics := none }

def pool4 : Array CpInfo := pool [(1, u "java/io/Serializable"), (0, .class_ 1), (0, u "java/lang/Object"), (0, .class_ 3)] 3

/-- java/io/Serializable -/
def k4 : Class := { plain "java/io/Serializable" (some 0) with
  accessFlags := 1537
  interfaces := #[]
  cf := some (fileOf pool4 2 #[] #[] 1537 4 #[] #[])
  fields := #[]
  methods := #[]
  instanceTypes := #[]
  staticTypes := #[]
  resolved := Array.replicate 8 none
  statics := none }

/-- the primitive byte -/
def k5 : Class := { plain "byte" none with kind := .primitive 'B', accessFlags := 0x411 }
/-- [B -/
def k6 : Class := { plain "[B" (some 0) with kind := .array 5 .byte, interfaces := #[3, 4], accessFlags := 1041 }

/-- the primitive int -/
def k7 : Class := { plain "int" none with kind := .primitive 'I', accessFlags := 0x411 }
/-- [I -/
def k8 : Class := { plain "[I" (some 0) with kind := .array 7 .int, interfaces := #[3, 4], accessFlags := 1041 }

def heap : Heap := #[]
def classes : Array Class := #[k0, k1, k2, k3, k4, k5, k6, k7, k8]
def interned : List (Array UInt16 × Addr) := []
def slotsUsed : Nat := 0
def theMethod : MethodId := ⟨1, 1⟩
def args0 : Array Value := #[.int 65]
def aboutOver (below : List Frame) : State where
  vm := { classes := classes, interned := interned.toArray }
  heap := heap
  slotsUsed := slotsUsed
  threads := #[{ frames := .invoking theMethod args0 :: below }]
def below0 : List Frame := [.native { method := ⟨0, 0⟩, args := #[] }]
def about1 : State := aboutOver below0
def p0 : Program := .bare "" "" ""
def e0 : Env := launch0.env 0 0 0
theorem w_frames : about1.frames = Frame.invoking theMethod args0 :: below0 := rfl
set_option maxRecDepth 65536 in
theorem w_args : argsFit about1.vm theMethod args0 = true := by decide +kernel
set_option maxRecDepth 65536 in
theorem w_heap : heapFits about1 = true := by decide +kernel
set_option maxRecDepth 65536 in
theorem w_runnable : about1.curStatus? = some .runnable := by decide +kernel
set_option maxRecDepth 65536 in
theorem w_alone : about1.alone = true := by decide +kernel
set_option maxRecDepth 65536 in
theorem w_named : about1.methodNamed? x = some theMethod := by decide +kernel
set_option maxRecDepth 65536 in
theorem w_hears : about1.hears theMethod below0 = true := by decide +kernel
set_option maxRecDepth 65536 in
theorem w_ripe : about1.ripe theMethod args0 below0 = true := by decide +kernel
theorem w_running : about1.status = .running := rfl
set_option maxRecDepth 65536 in
theorem w_room : about1.hasRoom e0.platform room_1 = true :=
  launch0.hasRoom_least _ room_1 (by decide +kernel) (by decide +kernel) (by decide +kernel) (by decide +kernel) (by decide +kernel) (by decide +kernel)
theorem allAtoms_all (ts : List Jvm.Cond) (a : Array Jvm.Value) (st : Jvm.State) : (allAtoms ts).before a st = ts.all (fun c => c.before a st) := by
  induction ts with
  | nil => rfl
  | cons c t ih =>
    show (Jvm.Cond.and c (allAtoms t)).before a st = _
    rw [Jvm.Cond.before_and, ih, List.all_cons]
def words1 : List Jvm.Cond := Jvm.Cond.code x code maxLocals ret :: tables_1
/-- a 'code' word, met by the world's own term for the bytes: nothing is compared byte by byte -/
theorem code_word {y : MethodName} {bytes : ByteArray} {mx : Nat} {rt : Option FieldType} {a : Array Value} {s : State} {m : MethodId} {meth : Method} {c : Code} (h1 : s.methodNamed? y = some m) (h2 : s.vm.method? m = some meth) (h3 : meth.code = some c) (h4 : c.code = bytes)
    (h5 : (c.maxLocals == mx && c.exceptionTable.isEmpty && decide (c.maxStack ≤ mostOperands) && decide (meth.sig.returnType = rt) && !meth.locks && decide (parseMethodDescriptor y.desc = some meth.sig)) = true) : (Jvm.Cond.code y bytes mx rt).before a s = true := by
  simp only [Bool.and_eq_true, beq_iff_eq, Bool.not_eq_true', decide_eq_true_eq] at h5
  obtain ⟨⟨⟨⟨⟨g1, g2⟩, g3⟩, g4⟩, g5⟩, g6⟩ := h5
  simp [Cond.before, Cond.holds, Cond.value, h1, h2, h3, h4, g1, g2, g3, g4, g5, g6]
def isCode : Jvm.Cond → Bool
  | .code _ _ _ _ => true
  | _ => false
theorem all_split {L : List Jvm.Cond} {P : Jvm.Cond → Bool} (h1 : L.all (fun c => isCode c || P c) = true) (h2 : ∀ c ∈ L.filter isCode, P c = true) : L.all P = true := by
  refine List.all_eq_true.mpr fun c hc => ?_
  have h := List.all_eq_true.mp h1 c hc
  rcases Bool.eq_false_or_eq_true (isCode c) with hi | hi
  · exact h2 c (List.mem_filter.mpr ⟨hc, hi⟩)
  · simpa [hi] using h
set_option maxRecDepth 65536 in
theorem w_c0 : (Jvm.Cond.code x code maxLocals ret).before args0 about1 = true := code_word (m := ⟨1, 1⟩) (meth := k1m1) (c := k1c1) (by decide +kernel) rfl rfl rfl (by decide +kernel)
set_option maxRecDepth 65536 in
theorem w_c1 : (Jvm.Cond.code ({ cls := "com/example/since/since/formula/Names", name := "isNameStart", desc := "(C)Z" } : Jvm.MethodName) prog_40_method_2_code (1 : Nat) (Option.some Jvm.ClassFile.FieldType.boolean)).before args0 about1 = true := code_word (m := ⟨2, 1⟩) (meth := k2m1) (c := k2c1) (by decide +kernel) rfl rfl rfl (by decide +kernel)
def codes1 : List Jvm.Cond := [Jvm.Cond.code x code maxLocals ret, Jvm.Cond.code ({ cls := "com/example/since/since/formula/Names", name := "isNameStart", desc := "(C)Z" } : Jvm.MethodName) prog_40_method_2_code (1 : Nat) (Option.some Jvm.ClassFile.FieldType.boolean)]
set_option maxRecDepth 65536 in
theorem codes_eq : words1.filter isCode = codes1 := rfl
theorem w_codes : ∀ c ∈ words1.filter isCode, c.before args0 about1 = true := by
  rw [codes_eq]
  intro c hc
  simp only [codes1, List.mem_cons, List.not_mem_nil, or_false] at hc
  rcases hc with rfl | rfl
  · exact w_c0
  · exact w_c1
set_option maxRecDepth 65536 in
theorem w_t1 : words1.all (fun c => isCode c || c.before args0 about1) = true := by decide +kernel
theorem w_tables : (allAtoms (Jvm.Cond.code x code maxLocals ret :: tables_1)).before args0 about1 = true := by
  rw [allAtoms_all]
  show words1.all (fun c => c.before args0 about1) = true
  refine all_split ?_ w_codes
  rw [w_t1]
set_option maxRecDepth 65536 in
theorem w_case : (Jvm.Cond.and given_1 narrow_1).before args0 about1 = true := by decide +kernel
theorem w_applies : (headSpec (Jvm.Cond.code x code maxLocals ret :: tables_1) room_1).applies x e0.platform about1 = true :=
  (Spec.applies_iff w_frames).mpr ⟨w_running, w_runnable, w_alone, w_named, w_hears, w_ripe, w_room, w_tables⟩
theorem atStart : AtStart classFile x code maxLocals ret World_1 tables_1 room_1 Calls_1 rest_1 Pre_1 launch0 p0 e0 about1 theMethod args0 below0 :=
  ⟨lists_1, trivial, launch0.admits_env _ _ _, launch0.least_env, fairChoices_fair.cas, fairChoices_fair.clock, w_frames, w_args, w_heap, w_applies, trivial, trivial, w_case⟩
end start1
theorem witness_1 : WitnessClaimed_1 := ⟨start1.p0, start1.e0, start1.about1, start1.theMethod, start1.args0, start1.below0, start1.atStart⟩
end Jvm.Pilot.@@N@@
