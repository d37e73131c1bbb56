import JvmDerived
import JvmDerived.Pilot.@@N@@Statement
import JvmDerived.Pilot.@@N@@Code
set_option linter.unusedVariables false
set_option linter.unusedSimpArgs false
namespace Jvm.RoadKit
open Sem ClassFile Op Lib Jvm.Stand Jvm.Free Jvm.LawKit
section New
variable {p : Program} {l : Launch} {e : Env} {R : Room} {s : State} {m : MethodId} {args : Array Value} {below : List Frame} {meth : Method} {c : Code} {T : State} {locs : List Loc} {cells slots : Nat}
theorem retI (X : Stand p l e R s m args below meth c T locs cells slots) (hx : p.tables.exec = Jvm.exec) {pc : Nat} {Ls : Array Slot} {z : Int32} {rest : List Value} (hret : meth.sig.returnType = some .int) (hd : decode c.code pc = .ok (.ireturn, 1)) {fs : List Frame}
    (hl : ∀ (f : JFrame) (acts : List Action), f.method = m → f.locked = none → f.entered = [] → (doReturn e (T.setTop f) acts (some (.int z))).1 = T.setFrames fs) : Steps p.tables e below (T.setTop (mkF m pc Ls (.int z :: rest))) (T.setFrames fs) := by
  have hm' : T.vm.method? m = some meth := X.method'
  have hn : narrow .int (.int z) = .int z := rfl
  show Steps p.tables e below (T.setTop { method := m, pc := pc, locals := Ls, stack := _ :: rest, locked := none }) _
  jvm_step X.here [X.here.top, hx, hd, hm', hret, hn]
  first | (intro acts; rw [hl _ acts rfl rfl rfl]) | rw [hl _ _ rfl rfl rfl]
  exact Steps.refl _
end New
end Jvm.RoadKit
namespace Jvm.Pilot.@@N@@
open Jvm Jvm.ClassFile Sem Op Lib Jvm.Free Jvm.Stand Jvm.LawKit Jvm.RoadKit Bundle Jvm.Pilot.@@N@@.Jvm.D
abbrev own_s (p : Program) (e : Env) (below : List Frame) (T : State) (m : MethodId) (pc : Nat) (L : Array Slot) (S : List Value) (t : State) : Prop := Steps p.tables e below (T.setTop (mkF m pc L S)) t
theorem own_fit {C : String} {v : Value} (h : v.isRef = true) : fits (.object C) v = true := by rcases ref_cases h with rfl | ⟨_, rfl⟩ <;> rfl
theorem own_cat1 {v : Value} (h : v.isRef = true) : v.category = 1 := by rcases ref_cases h with rfl | ⟨_, rfl⟩ <;> rfl
theorem own_narR {t : FieldType} {v : Value} (h : v.isRef = true) : narrow t v = v := by cases v <;> first | (cases t <;> rfl) | (cases h)
theorem own_noI {Z : State} {a0 : Array Value} {C N O K : String} {n : Nat} (w1 : (Jvm.Cond.superclass C N).before a0 Z = true) (w2 : (Jvm.Cond.superclass N O).before a0 Z = true) (w3 : (Jvm.Cond.noSuperclass O).before a0 Z = true) (wi : (Jvm.Cond.instantiable K n).before a0 Z = true) (h1 : C ≠ K) (h2 : N ≠ K) (h3 : O ≠ K) : ∃ c t, Z.vm.findClass C = some c ∧ Z.vm.findClass K = some t ∧ Z.vm.assignable c t = false := by
  obtain ⟨t, kt, t1, t2, t3, t4, -, -⟩ := Cond.instantiable_spec wi
  obtain ⟨co, ko, o1, o2, o3, -, -⟩ := Cond.noSuperclass_spec w3
  have no := ids_ne o1 t1 h3
  have n0 : NS Z O K := ⟨co, t, o1, t1, fun fuel => by
    cases fuel with
    | zero => rfl
    | succ f => simp [Vm.isSubclassAux, no, o2, o3]⟩
  obtain ⟨c, t', c1, c2, c3⟩ := NS.step w1 (NS.step w2 n0 h2) h1
  cases t1.symm.trans c2
  obtain ⟨p, k, kp, p1, p2, p3, p4, p5, -, p7⟩ := Cond.superclass_spec c1 w1
  have ne := ids_ne c1 t1 h1
  refine ⟨c, t, c1, t1, ?_⟩
  show Z.vm.assignableAux (255 + 1) c t = false
  simp [Vm.assignableAux, ne, p2, t2, p5, t3, (Bool.or_eq_false_iff.mp t4).1, Vm.isSubclass, c3]
def own_Ca (Z : State) (h : Heap) (ca : Addr) : Prop := ∃ cl : Cell, Arr Z h ca cl (.object "java/lang/Integer") ∧ cl.slots.size = 256 ∧ ∀ j, j < 256 → ∃ r, cl.slots[j]? = some (.ref r) ∧ Exa Z h r "java/lang/Integer"
theorem own_Ca.ext {Z : State} {h h' : Heap} {ca : Addr} (F : own_Ca Z h ca) (E : Ext h h') : own_Ca Z h' ca := by
  obtain ⟨cl, A, S, H⟩ := F
  exact ⟨cl, A.ext E, S, fun j hj => by obtain ⟨r, q, x⟩ := H j hj; exact ⟨r, q, x.ext E⟩⟩
theorem own_idx {j : Int32} {n : Nat} (h0 : 0 ≤ j.toInt) (h1 : j.toInt < n) : ¬ j < 0 ∧ j.toNatClampNeg < n := by
  have q : ¬ j < 0 := fun w => by have := Int32.lt_iff_toInt_lt.mp w; have e : (0 : Int32).toInt = 0 := rfl; omega
  exact ⟨q, by have := nat_of q; omega⟩
theorem own_fe {args : Array Value} {s : State} {t : Term} {k : Int32} (h : (Jvm.Cond.eq t (.int k)).value args s none s [] = some true) : t.eval args s none [] s = some (.int k) := by
  obtain ⟨x, y, ex, ey, k1, k2⟩ := cmp_v (Or.inl h)
  obtain rfl : y = .int k := Option.some.inj (ey.symm.trans (Term.int_eval k))
  obtain ⟨z, rfl⟩ : ∃ z, x = .int z := k2
  have q : decide (z = k) = true := by simpa [Jvm.Cond.value, ex, ey] using h
  rw [ex, of_decide_eq_true q]
theorem own_len {args : Array Value} {s : State} {t : Term} {a : Addr} {c : Cell} (ht : t.eval args s none [] s = some (.ref a)) (ha : s.arrayAt? a = some c) (h : (Term.length t).eval args s none [] s = some (.int (256 : Int32))) : c.slots.size = 256 := by
  by_cases hl : c.slots.size < 2 ^ 31
  · rw [len_f ht ha hl] at h
    have q : (c.slots.size.toInt32).toInt = (256 : Int32).toInt := congrArg Int32.toInt (Value.int.inj (Option.some.inj h))
    have q2 : (c.slots.size.toInt32).toInt = (c.slots.size : Int) := Int32.toInt_ofNat_of_lt hl
    have q3 : (256 : Int32).toInt = 256 := rfl
    omega
  · simp [Term.eval, ht, ha, hl] at h
def own_ke (p1 v1 : Int32) (t1 : Value) (p2 v2 : Int32) (t2 : Value) : Int32 := if p1 = p2 ∧ v1 = v2 ∧ t1 = t2 then 1 else 0
theorem d1_0 : decode method_2_code 0 = .ok (.iload_n 0, 1) := by decide +kernel
theorem d1_1 : decode method_2_code 1 = .ok (.iconst 1, 1) := by decide +kernel
theorem d1_2 : decode method_2_code 2 = .ok (.if_icmp .ne 7, 3) := by decide +kernel
theorem d1_5 : decode method_2_code 5 = .ok (.getstatic 7, 3) := by decide +kernel
theorem d1_8 : decode method_2_code 8 = .ok (.areturn, 1) := by decide +kernel
theorem d1_9 : decode method_2_code 9 = .ok (.iload_n 0, 1) := by decide +kernel
theorem d1_10 : decode method_2_code 10 = .ok (.iconst 2, 1) := by decide +kernel
theorem d1_11 : decode method_2_code 11 = .ok (.if_icmp .ne 5, 3) := by decide +kernel
theorem d1_14 : decode method_2_code 14 = .ok (.aconst_null, 1) := by decide +kernel
theorem d1_15 : decode method_2_code 15 = .ok (.areturn, 1) := by decide +kernel
theorem d1_16 : decode method_2_code 16 = .ok (.getstatic 13, 3) := by decide +kernel
theorem d1_19 : decode method_2_code 19 = .ok (.areturn, 1) := by decide +kernel
theorem pn_1 : plainName "com/example/farcall/farcall/service/BindingKeyEqualsPinLaw" = true := by first | (simp [plainName, overriddenIn]; done) | decide +kernel
theorem ef_1 (m : MethodId) (p0 : Int32) : entryFrame m #[(.int p0)] 1 = mkF m 0 #[iv p0] [] := by first | (simp [entryFrame, mkF, argsToLocals, Value.category]; done) | rfl
def Q1 (Z : State) (p0 : Int32) (U : Addr) (T : Addr) (h0 : Heap) (n0 : Nat) (v : Option Value) (h : Heap) (L : List Loc) : Prop := (∃ w, v = some w ∧ w.isRef = true) ∧ Fr n0 L ∧ h = h0
set_option maxRecDepth 65536 in
set_option maxHeartbeats 40000000 in
theorem rm1 (l : Launch) (Z : State) (a0 : Array Value) (hw : ∀ d ∈ tables_1, d.before a0 Z = true) (ws : List Jvm.Cond) (p0 : Int32) (U : Addr) (T : Addr) (h0 : Heap) (n0 : Nat) (Z0 : n0 ≤ h0.size) (S_U : Sta Z h0 "com/example/farcall/farcall/io/Transport" "UDP" "Lcom/example/farcall/farcall/io/Transport;" (.ref U)) (S_T : Sta Z h0 "com/example/farcall/farcall/io/Transport" "TCP" "Lcom/example/farcall/farcall/io/Transport;" (.ref T)) :
    MetFree l (⟨"com/example/farcall/farcall/service/BindingKeyEqualsPinLaw", "pick", "(I)Lcom/example/farcall/farcall/io/Transport;"⟩ : MethodName) (head1 (Jvm.Cond.code (⟨"com/example/farcall/farcall/service/BindingKeyEqualsPinLaw", "pick", "(I)Lcom/example/farcall/farcall/io/Transport;"⟩ : MethodName) method_2_code 1 (some (.object "com/example/farcall/farcall/io/Transport")) :: ws) ({ frames := 0, cells := 0, slots := 0, locals := 0 } : Room)) (fun aX UX => aX = #[(.int p0)] ∧ Z.Warmed39 UX.vm ∧ UX.heap = h0) (fun _ _ _ _ _ => True) (fun _ UX oX UY => ∃ vX LX, oX = .returned vX ∧ Q1 Z p0 U T h0 n0 vX UY.heap LX ∧ FrameEnd UX oX UY LX ({ frames := 0, cells := 0, slots := 0, locals := 0 } : Room).cells ({ frames := 0, cells := 0, slots := 0, locals := 0 } : Room).slots) := by
  refine MetFree.of_bodySF (plainFor_of_name pn_1) hisR ?_
  intro p e s m args below meth c s₁ Bd hml0 hP hK
  obtain ⟨rfl, hZ, hh⟩ := hP
  have hx := Bd.exec
  have hby := Bd.bytes
  have hml : c.maxLocals = 1 := hml0
  have hown : s.vm.findClass "com/example/farcall/farcall/service/BindingKeyEqualsPinLaw" = some m.cls := findClass_of_methodNamed Bd.named
  have hnm := (name_of_methodNamed Bd.named Bd.method).1
  have X0 : Stand p l e ({ frames := 0, cells := 0, slots := 0, locals := 0 } : Room) s m #[(.int p0)] below meth c s₁ [] 0 0 := Stand.of_body Bd
  have e0 : s₁.heap = h0 := by rw [← hh, Bd.state]; rfl
  have N0 := Fr.nil n0
  have pre0 : ∀ t, Steps p.tables e below (s₁.setTop (mkF m 0 #[iv p0] [])) t → Steps p.tables e below (s₁.setTop (entryFrame m #[(.int p0)] 1)) t := fun t k => castTop (ef_1 m p0) k
  obtain ⟨S0, hS0⟩ : ∃ z, z = (s₁.setTop (entryFrame m #[(.int p0)] 1)) := ⟨_, rfl⟩
  rw [← hS0] at pre0
  have pre1 : ∀ t, own_s p e below s₁ m 2 #[iv p0] [(.int (1 : Int32)), (.int p0)] t → Steps p.tables e below S0 t := by
    intro tX kX
    refine pre0 _ ?_
    show own_s p e below s₁ m 0 #[iv p0] [] _
    refine XS.iloadN X0.here hx rfl (hb hby d1_0) rfl ?_
    show own_s p e below s₁ m 1 #[iv p0] [(.int p0)] _
    refine XS.iconst X0.here hx rfl (hb hby d1_1) ?_
    exact kX
  by_cases hc2 : p0 = (1 : Int32)
  · skip
    have pre3 : ∀ t, own_s p e below s₁ m 5 #[iv p0] [] t → Steps p.tables e below S0 t := by
      intro tX kX
      refine pre1 _ ?_
      show own_s p e below s₁ m 2 #[iv p0] [(.int (1 : Int32)), (.int p0)] _
      refine XS.icmpNo X0.here hx rfl (hb hby d1_2) rfl (teq hc2).2 ?_
      exact kX
    obtain ⟨T4, X4, e4, st4⟩ := getS2 X0 hx hZ hown (host := "") (Or.inl (hw _ (List.mem_of_getElem? (i := 29) rfl))) Via.refl e0 S_U (g := (mkF m 5 #[iv p0] [])) rfl (hb hby d1_5)
    have pre5 : ∀ t, own_s p e below T4 m 8 #[iv p0] [(.ref U)] t → Steps p.tables e below S0 t := fun tX kX => pre3 _ (st4 _ kX)
    subst hS0
    obtain ⟨fs, hr, hrun, hended, hW, hsame⟩ := X4.leave (v := (some (.ref U))) (fun h => by rw [Bd.returns] at h; cases h)
    refine ⟨_, _, pre5 _ (retOut X4 hx Bd.returns (own_narR rfl) (Or.inr (Or.inr (Or.inr (Or.inr ⟨rfl, rfl, rfl⟩)))) (hb hby d1_8) hr), hrun, hended, _, _, rfl, ?_, ⟨_, rfl⟩, hW, hsame.mono (by decide) (by decide)⟩
    show Q1 Z p0 U T h0 n0 (some (.ref U)) T4.heap _
    exact ⟨⟨_, rfl, rfl⟩, N0, e4⟩
  · skip
    have pre6 : ∀ t, own_s p e below s₁ m 11 #[iv p0] [(.int (2 : Int32)), (.int p0)] t → Steps p.tables e below S0 t := by
      intro tX kX
      refine pre1 _ ?_
      show own_s p e below s₁ m 2 #[iv p0] [(.int (1 : Int32)), (.int p0)] _
      refine XS.icmpYes X0.here hx rfl (pc0 := 2) (pc' := 9) rfl (hb hby d1_2) rfl (feq hc2).2 (by decide) (by decide) ?_
      show own_s p e below s₁ m 9 #[iv p0] [] _
      refine XS.iloadN X0.here hx rfl (hb hby d1_9) rfl ?_
      show own_s p e below s₁ m 10 #[iv p0] [(.int p0)] _
      refine XS.iconst X0.here hx rfl (hb hby d1_10) ?_
      exact kX
    by_cases hc7 : p0 = (2 : Int32)
    · skip
      have pre8 : ∀ t, own_s p e below s₁ m 15 #[iv p0] [.null] t → Steps p.tables e below S0 t := by
        intro tX kX
        refine pre6 _ ?_
        show own_s p e below s₁ m 11 #[iv p0] [(.int (2 : Int32)), (.int p0)] _
        refine XS.icmpNo X0.here hx rfl (hb hby d1_11) rfl (teq hc7).2 ?_
        show own_s p e below s₁ m 14 #[iv p0] [] _
        refine XS.aconstNull X0.here hx rfl (hb hby d1_14) ?_
        exact kX
      subst hS0
      obtain ⟨fs, hr, hrun, hended, hW, hsame⟩ := X0.leave (v := (some .null)) (fun h => by rw [Bd.returns] at h; cases h)
      refine ⟨_, _, pre8 _ (retOut X0 hx Bd.returns (own_narR rfl) (Or.inr (Or.inr (Or.inr (Or.inr ⟨rfl, rfl, rfl⟩)))) (hb hby d1_15) hr), hrun, hended, _, _, rfl, ?_, ⟨_, rfl⟩, hW, hsame.mono (by decide) (by decide)⟩
      show Q1 Z p0 U T h0 n0 (some .null) s₁.heap _
      exact ⟨⟨_, rfl, rfl⟩, N0, e0⟩
    · skip
      have pre9 : ∀ t, own_s p e below s₁ m 16 #[iv p0] [] t → Steps p.tables e below S0 t := by
        intro tX kX
        refine pre6 _ ?_
        show own_s p e below s₁ m 11 #[iv p0] [(.int (2 : Int32)), (.int p0)] _
        refine XS.icmpYes X0.here hx rfl (pc0 := 11) (pc' := 16) rfl (hb hby d1_11) rfl (feq hc7).2 (by decide) (by decide) ?_
        exact kX
      obtain ⟨T10, X10, e10, st10⟩ := getS2 X0 hx hZ hown (host := "") (Or.inl (hw _ (List.mem_of_getElem? (i := 4) rfl))) Via.refl e0 S_T (g := (mkF m 16 #[iv p0] [])) rfl (hb hby d1_16)
      have pre11 : ∀ t, own_s p e below T10 m 19 #[iv p0] [(.ref T)] t → Steps p.tables e below S0 t := fun tX kX => pre9 _ (st10 _ kX)
      subst hS0
      obtain ⟨fs, hr, hrun, hended, hW, hsame⟩ := X10.leave (v := (some (.ref T))) (fun h => by rw [Bd.returns] at h; cases h)
      refine ⟨_, _, pre11 _ (retOut X10 hx Bd.returns (own_narR rfl) (Or.inr (Or.inr (Or.inr (Or.inr ⟨rfl, rfl, rfl⟩)))) (hb hby d1_19) hr), hrun, hended, _, _, rfl, ?_, ⟨_, rfl⟩, hW, hsame.mono (by decide) (by decide)⟩
      show Q1 Z p0 U T h0 n0 (some (.ref T)) T10.heap _
      exact ⟨⟨_, rfl, rfl⟩, N0, e10⟩
theorem d2_0 : decode prog_64_method_1_code 0 = .ok (.aload_n 0, 1) := by decide +kernel
theorem d2_1 : decode prog_64_method_1_code 1 = .ok (.invokespecial 1, 3) := by decide +kernel
theorem d2_4 : decode prog_64_method_1_code 4 = .ok (.aload_n 0, 1) := by decide +kernel
theorem d2_5 : decode prog_64_method_1_code 5 = .ok (.iload_n 1, 1) := by decide +kernel
theorem d2_6 : decode prog_64_method_1_code 6 = .ok (.putfield 7, 3) := by decide +kernel
theorem d2_9 : decode prog_64_method_1_code 9 = .ok (.aload_n 0, 1) := by decide +kernel
theorem d2_10 : decode prog_64_method_1_code 10 = .ok (.iload_n 2, 1) := by decide +kernel
theorem d2_11 : decode prog_64_method_1_code 11 = .ok (.putfield 13, 3) := by decide +kernel
theorem d2_14 : decode prog_64_method_1_code 14 = .ok (.aload_n 0, 1) := by decide +kernel
theorem d2_15 : decode prog_64_method_1_code 15 = .ok (.aload_n 3, 1) := by decide +kernel
theorem d2_16 : decode prog_64_method_1_code 16 = .ok (.putfield 16, 3) := by decide +kernel
theorem d2_19 : decode prog_64_method_1_code 19 = .ok (.return_, 1) := by decide +kernel
theorem pn_2 : plainName "com/example/farcall/farcall/service/BindingKey" = true := by first | (simp [plainName, overriddenIn]; done) | decide +kernel
theorem ef_2 (m : MethodId) (a : Addr) (p1 : Int32) (p2 : Int32) (tv : Value) (hv : tv.isRef = true) : entryFrame m #[(.ref a), (.int p1), (.int p2), tv] 4 = mkF m 0 #[rv a, iv p1, iv p2, .val tv] [] := by
  rcases ref_cases hv with rfl | ⟨_, rfl⟩ <;> first | (simp [entryFrame, mkF, argsToLocals, Value.category]; done) | rfl
def Q2 (Z : State) (a : Addr) (p1 : Int32) (p2 : Int32) (tv : Value) (h0 : Heap) (n0 : Nat) (v : Option Value) (h : Heap) (L : List Loc) : Prop := v = none ∧ Fr n0 L ∧ Keep h0 h [a] ∧ Exa Z h a "com/example/farcall/farcall/service/BindingKey" ∧ Fld Z h a "com/example/farcall/farcall/service/BindingKey" "program" "I" (.int p1) ∧ Fld Z h a "com/example/farcall/farcall/service/BindingKey" "version" "I" (.int p2) ∧ Fld Z h a "com/example/farcall/farcall/service/BindingKey" "transport" "Lcom/example/farcall/farcall/io/Transport;" tv
set_option maxRecDepth 65536 in
set_option maxHeartbeats 40000000 in
theorem rm2 (l : Launch) (Z : State) (a0 : Array Value) (hw : ∀ d ∈ tables_1, d.before a0 Z = true) (ws : List Jvm.Cond) (a : Addr) (p1 : Int32) (p2 : Int32) (tv : Value) (h0 : Heap) (n0 : Nat) (Z0 : n0 ≤ h0.size) (hv : tv.isRef = true) (E_a : Exa Z h0 a "com/example/farcall/farcall/service/BindingKey") (F_p : Fld Z h0 a "com/example/farcall/farcall/service/BindingKey" "program" "I" (.int (0 : Int32))) (F_v : Fld Z h0 a "com/example/farcall/farcall/service/BindingKey" "version" "I" (.int (0 : Int32))) (F_t : Fld Z h0 a "com/example/farcall/farcall/service/BindingKey" "transport" "Lcom/example/farcall/farcall/io/Transport;" .null) (g_a : n0 ≤ a) :
    MetFree l (⟨"com/example/farcall/farcall/service/BindingKey", "<init>", "(IILcom/example/farcall/farcall/io/Transport;)V"⟩ : MethodName) (head1 (Jvm.Cond.code (⟨"com/example/farcall/farcall/service/BindingKey", "<init>", "(IILcom/example/farcall/farcall/io/Transport;)V"⟩ : MethodName) prog_64_method_1_code 4 none :: ws) ({ frames := 1, cells := 0, slots := 0, locals := 15 } : Room)) (fun aX UX => aX = #[(.ref a), (.int p1), (.int p2), tv] ∧ Z.Warmed39 UX.vm ∧ UX.heap = h0) (fun _ _ _ _ _ => True) (fun _ UX oX UY => ∃ vX LX, oX = .returned vX ∧ Q2 Z a p1 p2 tv h0 n0 vX UY.heap LX ∧ FrameEnd UX oX UY LX ({ frames := 1, cells := 0, slots := 0, locals := 15 } : Room).cells ({ frames := 1, cells := 0, slots := 0, locals := 15 } : Room).slots) := by
  refine MetFree.of_bodySF (plainFor_of_name pn_2) hisR ?_
  intro p e s m args below meth c s₁ Bd hml0 hP hK
  obtain ⟨rfl, hZ, hh⟩ := hP
  have hx := Bd.exec
  have hby := Bd.bytes
  have hml : c.maxLocals = 4 := hml0
  have hown : s.vm.findClass "com/example/farcall/farcall/service/BindingKey" = some m.cls := findClass_of_methodNamed Bd.named
  have hnm := (name_of_methodNamed Bd.named Bd.method).1
  have X0 : Stand p l e ({ frames := 1, cells := 0, slots := 0, locals := 15 } : Room) s m #[(.ref a), (.int p1), (.int p2), tv] below meth c s₁ [] 0 0 := Stand.of_body Bd
  have e0 : s₁.heap = h0 := by rw [← hh, Bd.state]; rfl
  have N0 := Fr.nil n0
  have pre0 : ∀ t, Steps p.tables e below (s₁.setTop (mkF m 0 #[rv a, iv p1, iv p2, .val tv] [])) t → Steps p.tables e below (s₁.setTop (entryFrame m #[(.ref a), (.int p1), (.int p2), tv] 4)) t := fun t k => castTop (ef_2 m a p1 p2 tv hv) k
  obtain ⟨S0, hS0⟩ : ∃ z, z = (s₁.setTop (entryFrame m #[(.ref a), (.int p1), (.int p2), tv] 4)) := ⟨_, rfl⟩
  rw [← hS0] at pre0
  have K0 : Keep h0 h0 [a] := Keep.refl h0 _
  have pre1 : ∀ t, own_s p e below s₁ m 1 #[rv a, iv p1, iv p2, .val tv] [(.ref a)] t → Steps p.tables e below S0 t := by
    intro tX kX
    refine pre0 _ ?_
    show own_s p e below s₁ m 0 #[rv a, iv p1, iv p2, .val tv] [] _
    refine XS.aloadN X0.here hx rfl (hb hby d2_0) rfl rfl ?_
    exact kX
  obtain ⟨T2, X2, e2, st2⟩ := initO X0 hx hZ hown (hw _ (List.mem_of_getElem? (i := 13) rfl)) (hw _ (List.mem_of_getElem? (i := 14) rfl)) (hw _ (List.mem_of_getElem? (i := 15) rfl)) e0 (g := (mkF m 1 #[rv a, iv p1, iv p2, .val tv] [(.ref a)])) rfl (by rw [hml]; rfl) rfl (hb hby d2_1) (by decide) (W := 0) (by show 2 * 0 + _ ≤ _; exact Nat.le_of_eq rfl) (by decide)
  have pre3 : ∀ t, own_s p e below T2 m 4 #[rv a, iv p1, iv p2, .val tv] [] t → Steps p.tables e below S0 t := fun tX kX => pre1 _ (st2 _ kX)
  have pre4 : ∀ t, own_s p e below T2 m 6 #[rv a, iv p1, iv p2, .val tv] [(.int p1), (.ref a)] t → Steps p.tables e below S0 t := by
    intro tX kX
    refine pre3 _ ?_
    show own_s p e below T2 m 4 #[rv a, iv p1, iv p2, .val tv] [] _
    refine XS.aloadN X2.here hx rfl (hb hby d2_4) rfl rfl ?_
    show own_s p e below T2 m 5 #[rv a, iv p1, iv p2, .val tv] [(.ref a)] _
    refine XS.iloadN X2.here hx rfl (hb hby d2_5) rfl ?_
    exact kX
  obtain ⟨T5, h5, X5, e5, W5, st5⟩ := putF X2 hx hZ hown (host := "") (Or.inl (hw _ (List.mem_of_getElem? (i := 16) rfl))) Via.refl e2 F_p E_a (Or.inr ⟨(hw _ (List.mem_of_getElem? (i := 17) rfl)), rfl, hnm⟩) (hw _ (List.mem_of_getElem? (i := 8) rfl)) (ty := .int) (by decide) rfl rfl (g := (mkF m 6 #[rv a, iv p1, iv p2, .val tv] [(.int p1), (.ref a)])) rfl rfl (hb hby d2_6)
  have pre6 : ∀ t, own_s p e below T5 m 9 #[rv a, iv p1, iv p2, .val tv] [] t → Steps p.tables e below S0 t := fun tX kX => pre4 _ (st5 _ kX)
  obtain ⟨LL7, X7, N7⟩ : ∃ LL, Stand p l e ({ frames := 1, cells := 0, slots := 0, locals := 15 } : Room) s m #[(.ref a), (.int p1), (.int p2), tv] below meth c T5 LL 0 0 ∧ Fr n0 LL := ⟨_, X5, Fr.snoc X5 N0 g_a⟩
  have f8_E : Exa Z h5 a "com/example/farcall/farcall/service/BindingKey" := E_a.wr W5
  have f9_F : Fld Z h5 a "com/example/farcall/farcall/service/BindingKey" "version" "I" (.int (0 : Int32)) := F_v.other W5 (Or.inr (slot_ne (Or.inr (hw _ (List.mem_of_getElem? (i := 19) rfl))) (Or.inr (hw _ (List.mem_of_getElem? (i := 17) rfl))) (by decide) (t := .int) (t' := .int) (by decide) (by decide)))
  have f10_F : Fld Z h5 a "com/example/farcall/farcall/service/BindingKey" "transport" "Lcom/example/farcall/farcall/io/Transport;" .null := F_t.other W5 (Or.inr (slot_ne (Or.inr (hw _ (List.mem_of_getElem? (i := 21) rfl))) (Or.inr (hw _ (List.mem_of_getElem? (i := 17) rfl))) (by decide) (t := (.object "com/example/farcall/farcall/io/Transport")) (t' := .int) (by decide) (by decide)))
  have Z11 : n0 ≤ h5.size := Nat.le_trans Z0 (Keep.of_wr W5).1
  have K12 : Keep h0 h5 [a] := K0.wr W5 (Or.inl (List.mem_of_getElem? (i := 0) rfl))
  have f13_F : Fld Z h5 a "com/example/farcall/farcall/service/BindingKey" "program" "I" (.int p1) := F_p.same W5
  have pre14 : ∀ t, own_s p e below T5 m 11 #[rv a, iv p1, iv p2, .val tv] [(.int p2), (.ref a)] t → Steps p.tables e below S0 t := by
    intro tX kX
    refine pre6 _ ?_
    show own_s p e below T5 m 9 #[rv a, iv p1, iv p2, .val tv] [] _
    refine XS.aloadN X7.here hx rfl (hb hby d2_9) rfl rfl ?_
    show own_s p e below T5 m 10 #[rv a, iv p1, iv p2, .val tv] [(.ref a)] _
    refine XS.iloadN X7.here hx rfl (hb hby d2_10) rfl ?_
    exact kX
  obtain ⟨T15, h15, X15, e15, W15, st15⟩ := putF X7 hx hZ hown (host := "") (Or.inl (hw _ (List.mem_of_getElem? (i := 18) rfl))) Via.refl e5 f9_F f8_E (Or.inr ⟨(hw _ (List.mem_of_getElem? (i := 19) rfl)), rfl, hnm⟩) (hw _ (List.mem_of_getElem? (i := 8) rfl)) (ty := .int) (by decide) rfl rfl (g := (mkF m 11 #[rv a, iv p1, iv p2, .val tv] [(.int p2), (.ref a)])) rfl rfl (hb hby d2_11)
  have pre16 : ∀ t, own_s p e below T15 m 14 #[rv a, iv p1, iv p2, .val tv] [] t → Steps p.tables e below S0 t := fun tX kX => pre14 _ (st15 _ kX)
  obtain ⟨LL17, X17, N17⟩ : ∃ LL, Stand p l e ({ frames := 1, cells := 0, slots := 0, locals := 15 } : Room) s m #[(.ref a), (.int p1), (.int p2), tv] below meth c T15 LL 0 0 ∧ Fr n0 LL := ⟨_, X15, Fr.snoc X15 N7 g_a⟩
  have f18_E : Exa Z h15 a "com/example/farcall/farcall/service/BindingKey" := f8_E.wr W15
  have f19_F : Fld Z h15 a "com/example/farcall/farcall/service/BindingKey" "transport" "Lcom/example/farcall/farcall/io/Transport;" .null := f10_F.other W15 (Or.inr (slot_ne (Or.inr (hw _ (List.mem_of_getElem? (i := 21) rfl))) (Or.inr (hw _ (List.mem_of_getElem? (i := 19) rfl))) (by decide) (t := (.object "com/example/farcall/farcall/io/Transport")) (t' := .int) (by decide) (by decide)))
  have f20_F : Fld Z h15 a "com/example/farcall/farcall/service/BindingKey" "program" "I" (.int p1) := f13_F.other W15 (Or.inr (slot_ne (Or.inr (hw _ (List.mem_of_getElem? (i := 17) rfl))) (Or.inr (hw _ (List.mem_of_getElem? (i := 19) rfl))) (by decide) (t := .int) (t' := .int) (by decide) (by decide)))
  have Z21 : n0 ≤ h15.size := Nat.le_trans Z11 (Keep.of_wr W15).1
  have K22 : Keep h0 h15 [a] := K12.wr W15 (Or.inl (List.mem_of_getElem? (i := 0) rfl))
  have f23_F : Fld Z h15 a "com/example/farcall/farcall/service/BindingKey" "version" "I" (.int p2) := f9_F.same W15
  have pre24 : ∀ t, own_s p e below T15 m 16 #[rv a, iv p1, iv p2, .val tv] [tv, (.ref a)] t → Steps p.tables e below S0 t := by
    intro tX kX
    refine pre16 _ ?_
    show own_s p e below T15 m 14 #[rv a, iv p1, iv p2, .val tv] [] _
    refine XS.aloadN X17.here hx rfl (hb hby d2_14) rfl rfl ?_
    show own_s p e below T15 m 15 #[rv a, iv p1, iv p2, .val tv] [(.ref a)] _
    refine XS.aloadN X17.here hx rfl (hb hby d2_15) rfl hv ?_
    exact kX
  obtain ⟨T25, h25, X25, e25, W25, st25⟩ := putF X17 hx hZ hown (host := "") (Or.inl (hw _ (List.mem_of_getElem? (i := 20) rfl))) Via.refl e15 f19_F f18_E (Or.inr ⟨(hw _ (List.mem_of_getElem? (i := 21) rfl)), rfl, hnm⟩) (hw _ (List.mem_of_getElem? (i := 8) rfl)) (ty := (.object "com/example/farcall/farcall/io/Transport")) (by decide) (own_narR hv) (own_fit hv) (g := (mkF m 16 #[rv a, iv p1, iv p2, .val tv] [tv, (.ref a)])) rfl rfl (hb hby d2_16)
  have pre26 : ∀ t, own_s p e below T25 m 19 #[rv a, iv p1, iv p2, .val tv] [] t → Steps p.tables e below S0 t := fun tX kX => pre24 _ (st25 _ kX)
  obtain ⟨LL27, X27, N27⟩ : ∃ LL, Stand p l e ({ frames := 1, cells := 0, slots := 0, locals := 15 } : Room) s m #[(.ref a), (.int p1), (.int p2), tv] below meth c T25 LL 0 0 ∧ Fr n0 LL := ⟨_, X25, Fr.snoc X25 N17 g_a⟩
  have f28_E : Exa Z h25 a "com/example/farcall/farcall/service/BindingKey" := f18_E.wr W25
  have f29_F : Fld Z h25 a "com/example/farcall/farcall/service/BindingKey" "program" "I" (.int p1) := f20_F.other W25 (Or.inr (slot_ne (Or.inr (hw _ (List.mem_of_getElem? (i := 17) rfl))) (Or.inr (hw _ (List.mem_of_getElem? (i := 21) rfl))) (by decide) (t := .int) (t' := (.object "com/example/farcall/farcall/io/Transport")) (by decide) (by decide)))
  have f30_F : Fld Z h25 a "com/example/farcall/farcall/service/BindingKey" "version" "I" (.int p2) := f23_F.other W25 (Or.inr (slot_ne (Or.inr (hw _ (List.mem_of_getElem? (i := 19) rfl))) (Or.inr (hw _ (List.mem_of_getElem? (i := 21) rfl))) (by decide) (t := .int) (t' := (.object "com/example/farcall/farcall/io/Transport")) (by decide) (by decide)))
  have Z31 : n0 ≤ h25.size := Nat.le_trans Z21 (Keep.of_wr W25).1
  have K32 : Keep h0 h25 [a] := K22.wr W25 (Or.inl (List.mem_of_getElem? (i := 0) rfl))
  have f33_F : Fld Z h25 a "com/example/farcall/farcall/service/BindingKey" "transport" "Lcom/example/farcall/farcall/io/Transport;" tv := f19_F.same W25
  subst hS0
  obtain ⟨fs, hr, hrun, hended, hW, hsame⟩ := X27.leave (v := none) (fun _ => rfl)
  refine ⟨_, _, pre26 _ (X27.returnOut hx Bd.returns (hb hby d2_19) hr), hrun, hended, _, _, rfl, ?_, ⟨_, rfl⟩, hW, hsame.mono (by decide) (by decide)⟩
  show Q2 Z a p1 p2 tv h0 n0 none T25.heap _
  rw [e25]
  exact ⟨rfl, N27, K32, f28_E, f29_F, f30_F, f33_F⟩
theorem d3_0 : decode prog_64_method_5_code 0 = .ok (.aload_n 1, 1) := by decide +kernel
theorem d3_1 : decode prog_64_method_5_code 1 = .ok (.instanceof 8, 3) := by decide +kernel
theorem d3_4 : decode prog_64_method_5_code 4 = .ok (.ifCond .ne 5, 3) := by decide +kernel
theorem d3_7 : decode prog_64_method_5_code 7 = .ok (.iconst 0, 1) := by decide +kernel
theorem d3_8 : decode prog_64_method_5_code 8 = .ok (.ireturn, 1) := by decide +kernel
theorem pn_3 : plainName "com/example/farcall/farcall/service/BindingKey" = true := by first | (simp [plainName, overriddenIn]; done) | decide +kernel
theorem ef_3 (m : MethodId) (a : Addr) : entryFrame m #[(.ref a), .null] 3 = mkF m 0 #[rv a, .val .null, .unset] [] := by first | (simp [entryFrame, mkF, argsToLocals, Value.category]; done) | rfl
def Q3 (Z : State) (a : Addr) (h0 : Heap) (n0 : Nat) (v : Option Value) (h : Heap) (L : List Loc) : Prop := v = some (.int 0) ∧ Fr n0 L ∧ h = h0
set_option maxRecDepth 65536 in
set_option maxHeartbeats 40000000 in
theorem rm3 (l : Launch) (Z : State) (a0 : Array Value) (hw : ∀ d ∈ tables_1, d.before a0 Z = true) (ws : List Jvm.Cond) (a : Addr) (h0 : Heap) (n0 : Nat) (Z0 : n0 ≤ h0.size)  :
    MetFree l (⟨"com/example/farcall/farcall/service/BindingKey", "equals", "(Ljava/lang/Object;)Z"⟩ : MethodName) (head1 (Jvm.Cond.code (⟨"com/example/farcall/farcall/service/BindingKey", "equals", "(Ljava/lang/Object;)Z"⟩ : MethodName) prog_64_method_5_code 3 (some .boolean) :: ws) ({ frames := 0, cells := 0, slots := 0, locals := 0 } : Room)) (fun aX UX => aX = #[(.ref a), .null] ∧ Z.Warmed39 UX.vm ∧ UX.heap = h0) (fun _ _ _ _ _ => True) (fun _ UX oX UY => ∃ vX LX, oX = .returned vX ∧ Q3 Z a h0 n0 vX UY.heap LX ∧ FrameEnd UX oX UY LX ({ frames := 0, cells := 0, slots := 0, locals := 0 } : Room).cells ({ frames := 0, cells := 0, slots := 0, locals := 0 } : Room).slots) := by
  refine MetFree.of_bodySF (plainFor_of_name pn_3) hisR ?_
  intro p e s m args below meth c s₁ Bd hml0 hP hK
  obtain ⟨rfl, hZ, hh⟩ := hP
  have hx := Bd.exec
  have hby := Bd.bytes
  have hml : c.maxLocals = 3 := hml0
  have hown : s.vm.findClass "com/example/farcall/farcall/service/BindingKey" = some m.cls := findClass_of_methodNamed Bd.named
  have hnm := (name_of_methodNamed Bd.named Bd.method).1
  have X0 : Stand p l e ({ frames := 0, cells := 0, slots := 0, locals := 0 } : Room) s m #[(.ref a), .null] below meth c s₁ [] 0 0 := Stand.of_body Bd
  have e0 : s₁.heap = h0 := by rw [← hh, Bd.state]; rfl
  have N0 := Fr.nil n0
  have pre0 : ∀ t, Steps p.tables e below (s₁.setTop (mkF m 0 #[rv a, .val .null, .unset] [])) t → Steps p.tables e below (s₁.setTop (entryFrame m #[(.ref a), .null] 3)) t := fun t k => castTop (ef_3 m a) k
  obtain ⟨S0, hS0⟩ : ∃ z, z = (s₁.setTop (entryFrame m #[(.ref a), .null] 3)) := ⟨_, rfl⟩
  rw [← hS0] at pre0
  have pre1 : ∀ t, own_s p e below s₁ m 8 #[rv a, .val .null, .unset] [(.int (0 : Int32))] t → Steps p.tables e below S0 t := by
    intro tX kX
    refine pre0 _ ?_
    show own_s p e below s₁ m 0 #[rv a, .val .null, .unset] [] _
    refine XS.aloadN X0.here hx rfl (hb hby d3_0) rfl rfl ?_
    show own_s p e below s₁ m 1 #[rv a, .val .null, .unset] [.null] _
    refine X0.instanceofNull hx (g := (mkF m 1 #[rv a, .val .null, .unset] [.null])) rfl rfl (hb hby d3_1) _ ?_
    show own_s p e below s₁ m 4 #[rv a, .val .null, .unset] [(.int (0 : Int32))] _
    refine XS.ifNo X0.here hx rfl (hb hby d3_4) rfl ((if0 _ _).trans (teq (by decide : (0 : Int32) = (0 : Int32))).2) ?_
    show own_s p e below s₁ m 7 #[rv a, .val .null, .unset] [] _
    refine XS.iconst X0.here hx rfl (hb hby d3_7) ?_
    exact kX
  subst hS0
  obtain ⟨fs, hr, hrun, hended, hW, hsame⟩ := X0.leave (v := (some (.int (0 : Int32)))) (fun h => by rw [Bd.returns] at h; cases h)
  refine ⟨_, _, pre1 _ (retN X0 hx (t := .boolean) Bd.returns (by simp) (hb hby d3_8) hr), hrun, hended, _, _, rfl, ?_, ⟨_, rfl⟩, hW, hsame.mono (by decide) (by decide)⟩
  show Q3 Z a h0 n0 (some (.int (0 : Int32))) s₁.heap _
  exact ⟨rfl, N0, e0⟩
theorem d4_0 : decode prog_64_method_5_code 0 = .ok (.aload_n 1, 1) := by decide +kernel
theorem d4_1 : decode prog_64_method_5_code 1 = .ok (.instanceof 8, 3) := by decide +kernel
theorem d4_4 : decode prog_64_method_5_code 4 = .ok (.ifCond .ne 5, 3) := by decide +kernel
theorem d4_9 : decode prog_64_method_5_code 9 = .ok (.aload_n 1, 1) := by decide +kernel
theorem d4_10 : decode prog_64_method_5_code 10 = .ok (.checkcast 8, 3) := by decide +kernel
theorem d4_13 : decode prog_64_method_5_code 13 = .ok (.astore_n 2, 1) := by decide +kernel
theorem d4_14 : decode prog_64_method_5_code 14 = .ok (.aload_n 0, 1) := by decide +kernel
theorem d4_15 : decode prog_64_method_5_code 15 = .ok (.getfield 7, 3) := by decide +kernel
theorem d4_18 : decode prog_64_method_5_code 18 = .ok (.aload_n 2, 1) := by decide +kernel
theorem d4_19 : decode prog_64_method_5_code 19 = .ok (.getfield 7, 3) := by decide +kernel
theorem d4_22 : decode prog_64_method_5_code 22 = .ok (.if_icmp .ne 29, 3) := by decide +kernel
theorem d4_25 : decode prog_64_method_5_code 25 = .ok (.aload_n 0, 1) := by decide +kernel
theorem d4_26 : decode prog_64_method_5_code 26 = .ok (.getfield 13, 3) := by decide +kernel
theorem d4_29 : decode prog_64_method_5_code 29 = .ok (.aload_n 2, 1) := by decide +kernel
theorem d4_30 : decode prog_64_method_5_code 30 = .ok (.getfield 13, 3) := by decide +kernel
theorem d4_33 : decode prog_64_method_5_code 33 = .ok (.if_icmp .ne 18, 3) := by decide +kernel
theorem d4_36 : decode prog_64_method_5_code 36 = .ok (.aload_n 0, 1) := by decide +kernel
theorem d4_37 : decode prog_64_method_5_code 37 = .ok (.getfield 16, 3) := by decide +kernel
theorem d4_40 : decode prog_64_method_5_code 40 = .ok (.aload_n 2, 1) := by decide +kernel
theorem d4_41 : decode prog_64_method_5_code 41 = .ok (.getfield 16, 3) := by decide +kernel
theorem d4_44 : decode prog_64_method_5_code 44 = .ok (.if_acmp .ne 7, 3) := by decide +kernel
theorem d4_47 : decode prog_64_method_5_code 47 = .ok (.iconst 1, 1) := by decide +kernel
theorem d4_48 : decode prog_64_method_5_code 48 = .ok (.goto 4, 3) := by decide +kernel
theorem d4_51 : decode prog_64_method_5_code 51 = .ok (.iconst 0, 1) := by decide +kernel
theorem d4_52 : decode prog_64_method_5_code 52 = .ok (.ireturn, 1) := by decide +kernel
theorem pn_4 : plainName "com/example/farcall/farcall/service/BindingKey" = true := by first | (simp [plainName, overriddenIn]; done) | decide +kernel
theorem ef_4 (m : MethodId) (a : Addr) (o : Addr) : entryFrame m #[(.ref a), (.ref o)] 3 = mkF m 0 #[rv a, rv o, .unset] [] := by first | (simp [entryFrame, mkF, argsToLocals, Value.category]; done) | rfl
def Q4 (Z : State) (a : Addr) (o : Addr) (p1 : Int32) (v1 : Int32) (t1 : Value) (p2 : Int32) (v2 : Int32) (t2 : Value) (h0 : Heap) (n0 : Nat) (v : Option Value) (h : Heap) (L : List Loc) : Prop := v = some (.int (own_ke p1 v1 t1 p2 v2 t2)) ∧ Fr n0 L ∧ h = h0
set_option maxRecDepth 65536 in
set_option maxHeartbeats 40000000 in
theorem rm4 (l : Launch) (Z : State) (a0 : Array Value) (hw : ∀ d ∈ tables_1, d.before a0 Z = true) (ws : List Jvm.Cond) (a : Addr) (o : Addr) (p1 : Int32) (v1 : Int32) (t1 : Value) (p2 : Int32) (v2 : Int32) (t2 : Value) (h0 : Heap) (n0 : Nat) (Z0 : n0 ≤ h0.size) (E_o : Exa Z h0 o "com/example/farcall/farcall/service/BindingKey") (hv1 : t1.isRef = true) (hv2 : t2.isRef = true) (F0 : Fld Z h0 a "com/example/farcall/farcall/service/BindingKey" "program" "I" (.int p1)) (F1 : Fld Z h0 a "com/example/farcall/farcall/service/BindingKey" "version" "I" (.int v1)) (F2 : Fld Z h0 a "com/example/farcall/farcall/service/BindingKey" "transport" "Lcom/example/farcall/farcall/io/Transport;" t1) (F3 : Fld Z h0 o "com/example/farcall/farcall/service/BindingKey" "program" "I" (.int p2)) (F4 : Fld Z h0 o "com/example/farcall/farcall/service/BindingKey" "version" "I" (.int v2)) (F5 : Fld Z h0 o "com/example/farcall/farcall/service/BindingKey" "transport" "Lcom/example/farcall/farcall/io/Transport;" t2) :
    MetFree l (⟨"com/example/farcall/farcall/service/BindingKey", "equals", "(Ljava/lang/Object;)Z"⟩ : MethodName) (head1 (Jvm.Cond.code (⟨"com/example/farcall/farcall/service/BindingKey", "equals", "(Ljava/lang/Object;)Z"⟩ : MethodName) prog_64_method_5_code 3 (some .boolean) :: ws) ({ frames := 0, cells := 0, slots := 0, locals := 0 } : Room)) (fun aX UX => aX = #[(.ref a), (.ref o)] ∧ Z.Warmed39 UX.vm ∧ UX.heap = h0) (fun _ _ _ _ _ => True) (fun _ UX oX UY => ∃ vX LX, oX = .returned vX ∧ Q4 Z a o p1 v1 t1 p2 v2 t2 h0 n0 vX UY.heap LX ∧ FrameEnd UX oX UY LX ({ frames := 0, cells := 0, slots := 0, locals := 0 } : Room).cells ({ frames := 0, cells := 0, slots := 0, locals := 0 } : Room).slots) := by
  refine MetFree.of_bodySF (plainFor_of_name pn_4) hisR ?_
  intro p e s m args below meth c s₁ Bd hml0 hP hK
  obtain ⟨rfl, hZ, hh⟩ := hP
  have hx := Bd.exec
  have hby := Bd.bytes
  have hml : c.maxLocals = 3 := hml0
  have hown : s.vm.findClass "com/example/farcall/farcall/service/BindingKey" = some m.cls := findClass_of_methodNamed Bd.named
  have hnm := (name_of_methodNamed Bd.named Bd.method).1
  have X0 : Stand p l e ({ frames := 0, cells := 0, slots := 0, locals := 0 } : Room) s m #[(.ref a), (.ref o)] below meth c s₁ [] 0 0 := Stand.of_body Bd
  have e0 : s₁.heap = h0 := by rw [← hh, Bd.state]; rfl
  have N0 := Fr.nil n0
  have pre0 : ∀ t, Steps p.tables e below (s₁.setTop (mkF m 0 #[rv a, rv o, .unset] [])) t → Steps p.tables e below (s₁.setTop (entryFrame m #[(.ref a), (.ref o)] 3)) t := fun t k => castTop (ef_4 m a o) k
  obtain ⟨S0, hS0⟩ : ∃ z, z = (s₁.setTop (entryFrame m #[(.ref a), (.ref o)] 3)) := ⟨_, rfl⟩
  rw [← hS0] at pre0
  have pre1 : ∀ t, own_s p e below s₁ m 1 #[rv a, rv o, .unset] [(.ref o)] t → Steps p.tables e below S0 t := by
    intro tX kX
    refine pre0 _ ?_
    show own_s p e below s₁ m 0 #[rv a, rv o, .unset] [] _
    refine XS.aloadN X0.here hx rfl (hb hby d4_0) rfl rfl ?_
    exact kX
  obtain ⟨T2, X2, e2, st2⟩ := instY X0 hx hZ hown (hw _ (List.mem_of_getElem? (i := 27) rfl)) e0 (Ins.self E_o) (g := (mkF m 1 #[rv a, rv o, .unset] [(.ref o)])) rfl rfl (hb hby d4_1)
  have pre3 : ∀ t, own_s p e below T2 m 4 #[rv a, rv o, .unset] [(.int (1 : Int32))] t → Steps p.tables e below S0 t := fun tX kX => pre1 _ (st2 _ kX)
  have pre4 : ∀ t, own_s p e below T2 m 10 #[rv a, rv o, .unset] [(.ref o)] t → Steps p.tables e below S0 t := by
    intro tX kX
    refine pre3 _ ?_
    show own_s p e below T2 m 4 #[rv a, rv o, .unset] [(.int (1 : Int32))] _
    refine XS.ifYes X2.here hx rfl (pc0 := 4) (pc' := 9) rfl (hb hby d4_4) rfl ((if0 _ _).trans (feq (by decide : ¬ ((1 : Int32) = (0 : Int32)))).2) (by decide) (by decide) ?_
    show own_s p e below T2 m 9 #[rv a, rv o, .unset] [] _
    refine XS.aloadN X2.here hx rfl (hb hby d4_9) rfl rfl ?_
    exact kX
  obtain ⟨T5, X5, e5, st5⟩ := castY X2 hx hZ hown (hw _ (List.mem_of_getElem? (i := 27) rfl)) e2 (Ins.self E_o) (g := (mkF m 10 #[rv a, rv o, .unset] [(.ref o)])) rfl rfl (hb hby d4_10)
  have pre6 : ∀ t, own_s p e below T5 m 13 #[rv a, rv o, .unset] [(.ref o)] t → Steps p.tables e below S0 t := fun tX kX => pre4 _ (st5 _ kX)
  have pre7 : ∀ t, own_s p e below T5 m 15 #[rv a, rv o, rv o] [(.ref a)] t → Steps p.tables e below S0 t := by
    intro tX kX
    refine pre6 _ ?_
    show own_s p e below T5 m 13 #[rv a, rv o, .unset] [(.ref o)] _
    refine XS.astoreN X5.here hx rfl (hb hby d4_13) rfl rfl (l' := #[rv a, rv o, rv o]) rfl ?_
    show own_s p e below T5 m 14 #[rv a, rv o, rv o] [] _
    refine XS.aloadN X5.here hx rfl (hb hby d4_14) rfl rfl ?_
    exact kX
  obtain ⟨T8, X8, e8, st8⟩ := getF X5 hx hZ hown (host := "") (Or.inl (hw _ (List.mem_of_getElem? (i := 16) rfl))) Via.refl e5 F0 (g := (mkF m 15 #[rv a, rv o, rv o] [(.ref a)])) rfl rfl (hb hby d4_15)
  have pre9 : ∀ t, own_s p e below T8 m 18 #[rv a, rv o, rv o] [(.int p1)] t → Steps p.tables e below S0 t := fun tX kX => pre7 _ (st8 _ kX)
  have pre10 : ∀ t, own_s p e below T8 m 19 #[rv a, rv o, rv o] [(.ref o), (.int p1)] t → Steps p.tables e below S0 t := by
    intro tX kX
    refine pre9 _ ?_
    show own_s p e below T8 m 18 #[rv a, rv o, rv o] [(.int p1)] _
    refine XS.aloadN X8.here hx rfl (hb hby d4_18) rfl rfl ?_
    exact kX
  obtain ⟨T11, X11, e11, st11⟩ := getF X8 hx hZ hown (host := "") (Or.inl (hw _ (List.mem_of_getElem? (i := 16) rfl))) Via.refl e8 F3 (g := (mkF m 19 #[rv a, rv o, rv o] [(.ref o), (.int p1)])) rfl rfl (hb hby d4_19)
  have pre12 : ∀ t, own_s p e below T11 m 22 #[rv a, rv o, rv o] [(.int p2), (.int p1)] t → Steps p.tables e below S0 t := fun tX kX => pre10 _ (st11 _ kX)
  by_cases hc13 : p1 = p2
  · skip
    have pre14 : ∀ t, own_s p e below T11 m 26 #[rv a, rv o, rv o] [(.ref a)] t → Steps p.tables e below S0 t := by
      intro tX kX
      refine pre12 _ ?_
      show own_s p e below T11 m 22 #[rv a, rv o, rv o] [(.int p2), (.int p1)] _
      refine XS.icmpNo X11.here hx rfl (hb hby d4_22) rfl (teq hc13).2 ?_
      show own_s p e below T11 m 25 #[rv a, rv o, rv o] [] _
      refine XS.aloadN X11.here hx rfl (hb hby d4_25) rfl rfl ?_
      exact kX
    obtain ⟨T15, X15, e15, st15⟩ := getF X11 hx hZ hown (host := "") (Or.inl (hw _ (List.mem_of_getElem? (i := 18) rfl))) Via.refl e11 F1 (g := (mkF m 26 #[rv a, rv o, rv o] [(.ref a)])) rfl rfl (hb hby d4_26)
    have pre16 : ∀ t, own_s p e below T15 m 29 #[rv a, rv o, rv o] [(.int v1)] t → Steps p.tables e below S0 t := fun tX kX => pre14 _ (st15 _ kX)
    have pre17 : ∀ t, own_s p e below T15 m 30 #[rv a, rv o, rv o] [(.ref o), (.int v1)] t → Steps p.tables e below S0 t := by
      intro tX kX
      refine pre16 _ ?_
      show own_s p e below T15 m 29 #[rv a, rv o, rv o] [(.int v1)] _
      refine XS.aloadN X15.here hx rfl (hb hby d4_29) rfl rfl ?_
      exact kX
    obtain ⟨T18, X18, e18, st18⟩ := getF X15 hx hZ hown (host := "") (Or.inl (hw _ (List.mem_of_getElem? (i := 18) rfl))) Via.refl e15 F4 (g := (mkF m 30 #[rv a, rv o, rv o] [(.ref o), (.int v1)])) rfl rfl (hb hby d4_30)
    have pre19 : ∀ t, own_s p e below T18 m 33 #[rv a, rv o, rv o] [(.int v2), (.int v1)] t → Steps p.tables e below S0 t := fun tX kX => pre17 _ (st18 _ kX)
    by_cases hc20 : v1 = v2
    · skip
      have pre21 : ∀ t, own_s p e below T18 m 37 #[rv a, rv o, rv o] [(.ref a)] t → Steps p.tables e below S0 t := by
        intro tX kX
        refine pre19 _ ?_
        show own_s p e below T18 m 33 #[rv a, rv o, rv o] [(.int v2), (.int v1)] _
        refine XS.icmpNo X18.here hx rfl (hb hby d4_33) rfl (teq hc20).2 ?_
        show own_s p e below T18 m 36 #[rv a, rv o, rv o] [] _
        refine XS.aloadN X18.here hx rfl (hb hby d4_36) rfl rfl ?_
        exact kX
      obtain ⟨T22, X22, e22, st22⟩ := getF X18 hx hZ hown (host := "") (Or.inl (hw _ (List.mem_of_getElem? (i := 20) rfl))) Via.refl e18 F2 (g := (mkF m 37 #[rv a, rv o, rv o] [(.ref a)])) rfl rfl (hb hby d4_37)
      have pre23 : ∀ t, own_s p e below T22 m 40 #[rv a, rv o, rv o] [t1] t → Steps p.tables e below S0 t := fun tX kX => pre21 _ (st22 _ kX)
      have pre24 : ∀ t, own_s p e below T22 m 41 #[rv a, rv o, rv o] [(.ref o), t1] t → Steps p.tables e below S0 t := by
        intro tX kX
        refine pre23 _ ?_
        show own_s p e below T22 m 40 #[rv a, rv o, rv o] [t1] _
        refine XS.aloadN X22.here hx rfl (hb hby d4_40) rfl rfl ?_
        exact kX
      obtain ⟨T25, X25, e25, st25⟩ := getF X22 hx hZ hown (host := "") (Or.inl (hw _ (List.mem_of_getElem? (i := 20) rfl))) Via.refl e22 F5 (g := (mkF m 41 #[rv a, rv o, rv o] [(.ref o), t1])) rfl rfl (hb hby d4_41)
      have pre26 : ∀ t, own_s p e below T25 m 44 #[rv a, rv o, rv o] [t2, t1] t → Steps p.tables e below S0 t := fun tX kX => pre24 _ (st25 _ kX)
      by_cases hc27 : ((t1 : Value) = t2)
      · skip
        have pre28 : ∀ t, own_s p e below T25 m 52 #[rv a, rv o, rv o] [(.int (1 : Int32))] t → Steps p.tables e below S0 t := by
          intro tX kX
          refine pre26 _ ?_
          show own_s p e below T25 m 44 #[rv a, rv o, rv o] [t2, t1] _
          refine Jvm.RoadKit.acmp (g := (mkF m 44 #[rv a, rv o, rv o] [t2, t1])) X25 hx rfl hv1 hv2 (pc0 := 44) (pc' := 47) (same := true) rfl (hb hby d4_44) rfl (decide_eq_true hc27) (by decide) (by decide) ?_
          show own_s p e below T25 m 47 #[rv a, rv o, rv o] [] _
          refine XS.iconst X25.here hx rfl (hb hby d4_47) ?_
          show own_s p e below T25 m 48 #[rv a, rv o, rv o] [(.int (1 : Int32))] _
          refine XS.goto X25.here hx rfl (pc0 := 48) (pc' := 52) rfl (hb hby d4_48) (by decide) (by decide) ?_
          exact kX
        subst hS0
        obtain ⟨fs, hr, hrun, hended, hW, hsame⟩ := X25.leave (v := (some (.int (1 : Int32)))) (fun h => by rw [Bd.returns] at h; cases h)
        refine ⟨_, _, pre28 _ (retN X25 hx (t := .boolean) Bd.returns (by simp) (hb hby d4_52) hr), hrun, hended, _, _, rfl, ?_, ⟨_, rfl⟩, hW, hsame.mono (by decide) (by decide)⟩
        show Q4 Z a o p1 v1 t1 p2 v2 t2 h0 n0 (some (.int (1 : Int32))) T25.heap _
        exact ⟨congrArg (fun z => some (Value.int z)) (show (1 : Int32) = own_ke p1 v1 t1 p2 v2 t2 from (if_pos ⟨hc13, hc20, hc27⟩).symm), N0, e25⟩
      · skip
        have pre29 : ∀ t, own_s p e below T25 m 52 #[rv a, rv o, rv o] [(.int (0 : Int32))] t → Steps p.tables e below S0 t := by
          intro tX kX
          refine pre26 _ ?_
          show own_s p e below T25 m 44 #[rv a, rv o, rv o] [t2, t1] _
          refine Jvm.RoadKit.acmp (g := (mkF m 44 #[rv a, rv o, rv o] [t2, t1])) X25 hx rfl hv1 hv2 (pc0 := 44) (pc' := 51) (same := false) rfl (hb hby d4_44) rfl (decide_eq_false hc27) (by decide) (by decide) ?_
          show own_s p e below T25 m 51 #[rv a, rv o, rv o] [] _
          refine XS.iconst X25.here hx rfl (hb hby d4_51) ?_
          exact kX
        subst hS0
        obtain ⟨fs, hr, hrun, hended, hW, hsame⟩ := X25.leave (v := (some (.int (0 : Int32)))) (fun h => by rw [Bd.returns] at h; cases h)
        refine ⟨_, _, pre29 _ (retN X25 hx (t := .boolean) Bd.returns (by simp) (hb hby d4_52) hr), hrun, hended, _, _, rfl, ?_, ⟨_, rfl⟩, hW, hsame.mono (by decide) (by decide)⟩
        show Q4 Z a o p1 v1 t1 p2 v2 t2 h0 n0 (some (.int (0 : Int32))) T25.heap _
        exact ⟨congrArg (fun z => some (Value.int z)) (show (0 : Int32) = own_ke p1 v1 t1 p2 v2 t2 from (if_neg (fun q => hc27 q.2.2)).symm), N0, e25⟩
    · skip
      have pre30 : ∀ t, own_s p e below T18 m 52 #[rv a, rv o, rv o] [(.int (0 : Int32))] t → Steps p.tables e below S0 t := by
        intro tX kX
        refine pre19 _ ?_
        show own_s p e below T18 m 33 #[rv a, rv o, rv o] [(.int v2), (.int v1)] _
        refine XS.icmpYes X18.here hx rfl (pc0 := 33) (pc' := 51) rfl (hb hby d4_33) rfl (feq hc20).2 (by decide) (by decide) ?_
        show own_s p e below T18 m 51 #[rv a, rv o, rv o] [] _
        refine XS.iconst X18.here hx rfl (hb hby d4_51) ?_
        exact kX
      subst hS0
      obtain ⟨fs, hr, hrun, hended, hW, hsame⟩ := X18.leave (v := (some (.int (0 : Int32)))) (fun h => by rw [Bd.returns] at h; cases h)
      refine ⟨_, _, pre30 _ (retN X18 hx (t := .boolean) Bd.returns (by simp) (hb hby d4_52) hr), hrun, hended, _, _, rfl, ?_, ⟨_, rfl⟩, hW, hsame.mono (by decide) (by decide)⟩
      show Q4 Z a o p1 v1 t1 p2 v2 t2 h0 n0 (some (.int (0 : Int32))) T18.heap _
      exact ⟨congrArg (fun z => some (Value.int z)) (show (0 : Int32) = own_ke p1 v1 t1 p2 v2 t2 from (if_neg (fun q => hc20 q.2.1)).symm), N0, e18⟩
  · skip
    have pre31 : ∀ t, own_s p e below T11 m 52 #[rv a, rv o, rv o] [(.int (0 : Int32))] t → Steps p.tables e below S0 t := by
      intro tX kX
      refine pre12 _ ?_
      show own_s p e below T11 m 22 #[rv a, rv o, rv o] [(.int p2), (.int p1)] _
      refine XS.icmpYes X11.here hx rfl (pc0 := 22) (pc' := 51) rfl (hb hby d4_22) rfl (feq hc13).2 (by decide) (by decide) ?_
      show own_s p e below T11 m 51 #[rv a, rv o, rv o] [] _
      refine XS.iconst X11.here hx rfl (hb hby d4_51) ?_
      exact kX
    subst hS0
    obtain ⟨fs, hr, hrun, hended, hW, hsame⟩ := X11.leave (v := (some (.int (0 : Int32)))) (fun h => by rw [Bd.returns] at h; cases h)
    refine ⟨_, _, pre31 _ (retN X11 hx (t := .boolean) Bd.returns (by simp) (hb hby d4_52) hr), hrun, hended, _, _, rfl, ?_, ⟨_, rfl⟩, hW, hsame.mono (by decide) (by decide)⟩
    show Q4 Z a o p1 v1 t1 p2 v2 t2 h0 n0 (some (.int (0 : Int32))) T11.heap _
    exact ⟨congrArg (fun z => some (Value.int z)) (show (0 : Int32) = own_ke p1 v1 t1 p2 v2 t2 from (if_neg (fun q => hc13 q.1)).symm), N0, e11⟩
theorem d5_0 : decode prog_64_method_5_code 0 = .ok (.aload_n 1, 1) := by decide +kernel
theorem d5_1 : decode prog_64_method_5_code 1 = .ok (.instanceof 8, 3) := by decide +kernel
theorem d5_4 : decode prog_64_method_5_code 4 = .ok (.ifCond .ne 5, 3) := by decide +kernel
theorem d5_7 : decode prog_64_method_5_code 7 = .ok (.iconst 0, 1) := by decide +kernel
theorem d5_8 : decode prog_64_method_5_code 8 = .ok (.ireturn, 1) := by decide +kernel
theorem pn_5 : plainName "com/example/farcall/farcall/service/BindingKey" = true := by first | (simp [plainName, overriddenIn]; done) | decide +kernel
theorem ef_5 (m : MethodId) (a : Addr) (o : Addr) : entryFrame m #[(.ref a), (.ref o)] 3 = mkF m 0 #[rv a, rv o, .unset] [] := by first | (simp [entryFrame, mkF, argsToLocals, Value.category]; done) | rfl
def Q5 (Z : State) (a : Addr) (o : Addr) (h0 : Heap) (n0 : Nat) (v : Option Value) (h : Heap) (L : List Loc) : Prop := v = some (.int 0) ∧ Fr n0 L ∧ h = h0
set_option maxRecDepth 65536 in
set_option maxHeartbeats 40000000 in
theorem rm5 (l : Launch) (Z : State) (a0 : Array Value) (hw : ∀ d ∈ tables_1, d.before a0 Z = true) (ws : List Jvm.Cond) (a : Addr) (o : Addr) (h0 : Heap) (n0 : Nat) (Z0 : n0 ≤ h0.size) (E_o : Exa Z h0 o "java/lang/Integer") :
    MetFree l (⟨"com/example/farcall/farcall/service/BindingKey", "equals", "(Ljava/lang/Object;)Z"⟩ : MethodName) (head1 (Jvm.Cond.code (⟨"com/example/farcall/farcall/service/BindingKey", "equals", "(Ljava/lang/Object;)Z"⟩ : MethodName) prog_64_method_5_code 3 (some .boolean) :: ws) ({ frames := 0, cells := 0, slots := 0, locals := 0 } : Room)) (fun aX UX => aX = #[(.ref a), (.ref o)] ∧ Z.Warmed39 UX.vm ∧ UX.heap = h0) (fun _ _ _ _ _ => True) (fun _ UX oX UY => ∃ vX LX, oX = .returned vX ∧ Q5 Z a o h0 n0 vX UY.heap LX ∧ FrameEnd UX oX UY LX ({ frames := 0, cells := 0, slots := 0, locals := 0 } : Room).cells ({ frames := 0, cells := 0, slots := 0, locals := 0 } : Room).slots) := by
  refine MetFree.of_bodySF (plainFor_of_name pn_5) hisR ?_
  intro p e s m args below meth c s₁ Bd hml0 hP hK
  obtain ⟨rfl, hZ, hh⟩ := hP
  have hx := Bd.exec
  have hby := Bd.bytes
  have hml : c.maxLocals = 3 := hml0
  have hown : s.vm.findClass "com/example/farcall/farcall/service/BindingKey" = some m.cls := findClass_of_methodNamed Bd.named
  have hnm := (name_of_methodNamed Bd.named Bd.method).1
  have X0 : Stand p l e ({ frames := 0, cells := 0, slots := 0, locals := 0 } : Room) s m #[(.ref a), (.ref o)] below meth c s₁ [] 0 0 := Stand.of_body Bd
  have e0 : s₁.heap = h0 := by rw [← hh, Bd.state]; rfl
  have N0 := Fr.nil n0
  have pre0 : ∀ t, Steps p.tables e below (s₁.setTop (mkF m 0 #[rv a, rv o, .unset] [])) t → Steps p.tables e below (s₁.setTop (entryFrame m #[(.ref a), (.ref o)] 3)) t := fun t k => castTop (ef_5 m a o) k
  obtain ⟨S0, hS0⟩ : ∃ z, z = (s₁.setTop (entryFrame m #[(.ref a), (.ref o)] 3)) := ⟨_, rfl⟩
  rw [← hS0] at pre0
  have pre1 : ∀ t, own_s p e below s₁ m 1 #[rv a, rv o, .unset] [(.ref o)] t → Steps p.tables e below S0 t := by
    intro tX kX
    refine pre0 _ ?_
    show own_s p e below s₁ m 0 #[rv a, rv o, .unset] [] _
    refine XS.aloadN X0.here hx rfl (hb hby d5_0) rfl rfl ?_
    exact kX
  obtain ⟨T2, X2, e2, st2⟩ := instNo X0 hx hZ hown (hw _ (List.mem_of_getElem? (i := 27) rfl)) e0 E_o (own_noI (hw _ (List.mem_of_getElem? (i := 50) rfl)) (hw _ (List.mem_of_getElem? (i := 51) rfl)) (hw _ (List.mem_of_getElem? (i := 52) rfl)) (hw _ (List.mem_of_getElem? (i := 8) rfl)) (by decide) (by decide) (by decide)) (g := (mkF m 1 #[rv a, rv o, .unset] [(.ref o)])) rfl rfl (hb hby d5_1)
  have pre3 : ∀ t, own_s p e below T2 m 4 #[rv a, rv o, .unset] [(.int (0 : Int32))] t → Steps p.tables e below S0 t := fun tX kX => pre1 _ (st2 _ kX)
  have pre4 : ∀ t, own_s p e below T2 m 8 #[rv a, rv o, .unset] [(.int (0 : Int32))] t → Steps p.tables e below S0 t := by
    intro tX kX
    refine pre3 _ ?_
    show own_s p e below T2 m 4 #[rv a, rv o, .unset] [(.int (0 : Int32))] _
    refine XS.ifNo X2.here hx rfl (hb hby d5_4) rfl ((if0 _ _).trans (teq (by decide : (0 : Int32) = (0 : Int32))).2) ?_
    show own_s p e below T2 m 7 #[rv a, rv o, .unset] [] _
    refine XS.iconst X2.here hx rfl (hb hby d5_7) ?_
    exact kX
  subst hS0
  obtain ⟨fs, hr, hrun, hended, hW, hsame⟩ := X2.leave (v := (some (.int (0 : Int32)))) (fun h => by rw [Bd.returns] at h; cases h)
  refine ⟨_, _, pre4 _ (retN X2 hx (t := .boolean) Bd.returns (by simp) (hb hby d5_8) hr), hrun, hended, _, _, rfl, ?_, ⟨_, rfl⟩, hW, hsame.mono (by decide) (by decide)⟩
  show Q5 Z a o h0 n0 (some (.int (0 : Int32))) T2.heap _
  exact ⟨rfl, N0, e2⟩
theorem d6_0 : decode jdk_18_method_1_code 0 = .ok (.aload_n 0, 1) := by decide +kernel
theorem d6_1 : decode jdk_18_method_1_code 1 = .ok (.invokespecial 1, 3) := by decide +kernel
theorem d6_4 : decode jdk_18_method_1_code 4 = .ok (.return_, 1) := by decide +kernel
theorem pn_6 : plainName "java/lang/Number" = true := by first | (simp [plainName, overriddenIn]; done) | decide +kernel
theorem ef_6 (m : MethodId) (a : Addr) : entryFrame m #[(.ref a)] 1 = mkF m 0 #[rv a] [] := by first | (simp [entryFrame, mkF, argsToLocals, Value.category]; done) | rfl
def Q6 (Z : State) (a : Addr) (h0 : Heap) (n0 : Nat) (v : Option Value) (h : Heap) (L : List Loc) : Prop := v = none ∧ Fr n0 L ∧ h = h0
set_option maxRecDepth 65536 in
set_option maxHeartbeats 40000000 in
theorem rm6 (l : Launch) (Z : State) (a0 : Array Value) (hw : ∀ d ∈ tables_1, d.before a0 Z = true) (ws : List Jvm.Cond) (a : Addr) (h0 : Heap) (n0 : Nat) (Z0 : n0 ≤ h0.size)  :
    MetFree l (⟨"java/lang/Number", "<init>", "()V"⟩ : MethodName) (head1 (Jvm.Cond.code (⟨"java/lang/Number", "<init>", "()V"⟩ : MethodName) jdk_18_method_1_code 1 none :: ws) ({ frames := 1, cells := 0, slots := 0, locals := 15 } : Room)) (fun aX UX => aX = #[(.ref a)] ∧ Z.Warmed39 UX.vm ∧ UX.heap = h0) (fun _ _ _ _ _ => True) (fun _ UX oX UY => ∃ vX LX, oX = .returned vX ∧ Q6 Z a h0 n0 vX UY.heap LX ∧ FrameEnd UX oX UY LX ({ frames := 1, cells := 0, slots := 0, locals := 15 } : Room).cells ({ frames := 1, cells := 0, slots := 0, locals := 15 } : Room).slots) := by
  refine MetFree.of_bodySF (plainFor_of_name pn_6) hisR ?_
  intro p e s m args below meth c s₁ Bd hml0 hP hK
  obtain ⟨rfl, hZ, hh⟩ := hP
  have hx := Bd.exec
  have hby := Bd.bytes
  have hml : c.maxLocals = 1 := hml0
  have hown : s.vm.findClass "java/lang/Number" = some m.cls := findClass_of_methodNamed Bd.named
  have hnm := (name_of_methodNamed Bd.named Bd.method).1
  have X0 : Stand p l e ({ frames := 1, cells := 0, slots := 0, locals := 15 } : Room) s m #[(.ref a)] below meth c s₁ [] 0 0 := Stand.of_body Bd
  have e0 : s₁.heap = h0 := by rw [← hh, Bd.state]; rfl
  have N0 := Fr.nil n0
  have pre0 : ∀ t, Steps p.tables e below (s₁.setTop (mkF m 0 #[rv a] [])) t → Steps p.tables e below (s₁.setTop (entryFrame m #[(.ref a)] 1)) t := fun t k => castTop (ef_6 m a) k
  obtain ⟨S0, hS0⟩ : ∃ z, z = (s₁.setTop (entryFrame m #[(.ref a)] 1)) := ⟨_, rfl⟩
  rw [← hS0] at pre0
  have pre1 : ∀ t, own_s p e below s₁ m 1 #[rv a] [(.ref a)] t → Steps p.tables e below S0 t := by
    intro tX kX
    refine pre0 _ ?_
    show own_s p e below s₁ m 0 #[rv a] [] _
    refine XS.aloadN X0.here hx rfl (hb hby d6_0) rfl rfl ?_
    exact kX
  obtain ⟨T2, X2, e2, st2⟩ := initO X0 hx hZ hown (hw _ (List.mem_of_getElem? (i := 47) rfl)) (hw _ (List.mem_of_getElem? (i := 14) rfl)) (hw _ (List.mem_of_getElem? (i := 15) rfl)) e0 (g := (mkF m 1 #[rv a] [(.ref a)])) rfl (by rw [hml]; rfl) rfl (hb hby d6_1) (by decide) (W := 0) (by show 2 * 0 + _ ≤ _; exact Nat.le_of_eq rfl) (by decide)
  have pre3 : ∀ t, own_s p e below T2 m 4 #[rv a] [] t → Steps p.tables e below S0 t := fun tX kX => pre1 _ (st2 _ kX)
  subst hS0
  obtain ⟨fs, hr, hrun, hended, hW, hsame⟩ := X2.leave (v := none) (fun _ => rfl)
  refine ⟨_, _, pre3 _ (X2.returnOut hx Bd.returns (hb hby d6_4) hr), hrun, hended, _, _, rfl, ?_, ⟨_, rfl⟩, hW, hsame.mono (by decide) (by decide)⟩
  show Q6 Z a h0 n0 none T2.heap _
  exact ⟨rfl, N0, e2⟩
theorem d7_0 : decode jdk_33_method_23_code 0 = .ok (.aload_n 0, 1) := by decide +kernel
theorem d7_1 : decode jdk_33_method_23_code 1 = .ok (.invokespecial 202, 3) := by decide +kernel
theorem d7_4 : decode jdk_33_method_23_code 4 = .ok (.aload_n 0, 1) := by decide +kernel
theorem d7_5 : decode jdk_33_method_23_code 5 = .ok (.iload_n 1, 1) := by decide +kernel
theorem d7_6 : decode jdk_33_method_23_code 6 = .ok (.putfield 205, 3) := by decide +kernel
theorem d7_9 : decode jdk_33_method_23_code 9 = .ok (.return_, 1) := by decide +kernel
theorem pn_7 : plainName "java/lang/Integer" = true := by first | (simp [plainName, overriddenIn]; done) | decide +kernel
theorem pd7_0 : parseMethodDescriptor "()V" = some ⟨[], none⟩ := by decide +kernel
theorem ef_7 (m : MethodId) (a : Addr) (p1 : Int32) : entryFrame m #[(.ref a), (.int p1)] 2 = mkF m 0 #[rv a, iv p1] [] := by first | (simp [entryFrame, mkF, argsToLocals, Value.category]; done) | rfl
def Q7 (Z : State) (a : Addr) (p1 : Int32) (h0 : Heap) (n0 : Nat) (v : Option Value) (h : Heap) (L : List Loc) : Prop := v = none ∧ Fr n0 L ∧ Keep h0 h [a] ∧ Exa Z h a "java/lang/Integer"
set_option maxRecDepth 65536 in
set_option maxHeartbeats 40000000 in
theorem rm7 (l : Launch) (Z : State) (a0 : Array Value) (hw : ∀ d ∈ tables_1, d.before a0 Z = true) (ws : List Jvm.Cond) (a : Addr) (p1 : Int32) (h0 : Heap) (n0 : Nat) (Z0 : n0 ≤ h0.size) (E_a : Exa Z h0 a "java/lang/Integer") (F_v : Fld Z h0 a "java/lang/Integer" "value" "I" (.int (0 : Int32))) (g_a : n0 ≤ a) :
    MetFree l (⟨"java/lang/Integer", "<init>", "(I)V"⟩ : MethodName) (head1 (Jvm.Cond.code (⟨"java/lang/Integer", "<init>", "(I)V"⟩ : MethodName) jdk_33_method_23_code 2 none :: ws) ({ frames := 2, cells := 0, slots := 0, locals := 30 } : Room)) (fun aX UX => aX = #[(.ref a), (.int p1)] ∧ Z.Warmed39 UX.vm ∧ UX.heap = h0) (fun _ _ _ _ _ => True) (fun _ UX oX UY => ∃ vX LX, oX = .returned vX ∧ Q7 Z a p1 h0 n0 vX UY.heap LX ∧ FrameEnd UX oX UY LX ({ frames := 2, cells := 0, slots := 0, locals := 30 } : Room).cells ({ frames := 2, cells := 0, slots := 0, locals := 30 } : Room).slots) := by
  refine MetFree.of_bodySF (plainFor_of_name pn_7) hisR ?_
  intro p e s m args below meth c s₁ Bd hml0 hP hK
  obtain ⟨rfl, hZ, hh⟩ := hP
  have hx := Bd.exec
  have hby := Bd.bytes
  have hml : c.maxLocals = 2 := hml0
  have hown : s.vm.findClass "java/lang/Integer" = some m.cls := findClass_of_methodNamed Bd.named
  have hnm := (name_of_methodNamed Bd.named Bd.method).1
  have X0 : Stand p l e ({ frames := 2, cells := 0, slots := 0, locals := 30 } : Room) s m #[(.ref a), (.int p1)] below meth c s₁ [] 0 0 := Stand.of_body Bd
  have e0 : s₁.heap = h0 := by rw [← hh, Bd.state]; rfl
  have N0 := Fr.nil n0
  have pre0 : ∀ t, Steps p.tables e below (s₁.setTop (mkF m 0 #[rv a, iv p1] [])) t → Steps p.tables e below (s₁.setTop (entryFrame m #[(.ref a), (.int p1)] 2)) t := fun t k => castTop (ef_7 m a p1) k
  obtain ⟨S0, hS0⟩ : ∃ z, z = (s₁.setTop (entryFrame m #[(.ref a), (.int p1)] 2)) := ⟨_, rfl⟩
  rw [← hS0] at pre0
  have K0 : Keep h0 h0 [a] := Keep.refl h0 _
  have pre1 : ∀ t, own_s p e below s₁ m 1 #[rv a, iv p1] [(.ref a)] t → Steps p.tables e below S0 t := by
    intro tX kX
    refine pre0 _ ?_
    show own_s p e below s₁ m 0 #[rv a, iv p1] [] _
    refine XS.aloadN X0.here hx rfl (hb hby d7_0) rfl rfl ?_
    exact kX
  obtain ⟨_, _, ⟨T2, L2, k2, n2⟩, -, X2, ⟨Lc2, hQ2, l2, y2, z2⟩, st2⟩ := X0.specialBack hx (y := (⟨"java/lang/Number", "<init>", "()V"⟩ : MethodName)) rfl hown (mvT hZ (hw _ (List.mem_of_getElem? (i := 41) rfl))) (mvT hZ (hw _ (List.mem_of_getElem? (i := 42) rfl))) (mvT hZ (hw _ (List.mem_of_getElem? (i := 46) rfl))) (by decide) (backOf (W := 0) (rm6 l Z a0 hw [] a  h0 n0 Z0 ) hZ (hw _ (List.mem_of_getElem? (i := 46) rfl)) (hw _ (List.mem_of_getElem? (i := 45) rfl)) (by decide) (by decide)) (g := (mkF m 1 #[rv a, iv p1] [(.ref a)])) rfl (by rw [hml]; rfl) (Steps.refl _) (a := a) (argsL := []) (rest := []) (lenOf pd7_0 rfl) rfl (by show 2 * 0 + _ ≤ _; exact Nat.le_of_eq rfl) (hb hby d7_1) (fun _ _ => ⟨rfl, e0, (by decide : 0 + 0 ≤ _), (by decide : 0 + 0 ≤ _)⟩)
  dsimp only [Pt.U, Pt.locs, Pt.cells, Pt.slots] at X2 l2 y2 z2 st2 hQ2
  subst l2 y2 z2
  obtain ⟨rfl, Nq2, e2⟩ := hQ2
  have N2 := Fr.app N0 Nq2
  obtain ⟨LL3, X3, N3⟩ : ∃ LL, Stand p l e ({ frames := 2, cells := 0, slots := 0, locals := 30 } : Room) s m #[(.ref a), (.int p1)] below meth c T2 LL 0 0 ∧ Fr n0 LL := ⟨_, X2, N2⟩
  have pre4 : ∀ t, own_s p e below T2 m 4 #[rv a, iv p1] [] t → Steps p.tables e below S0 t := fun tX kX => pre1 _ (st2.trans kX)
  have pre5 : ∀ t, own_s p e below T2 m 6 #[rv a, iv p1] [(.int p1), (.ref a)] t → Steps p.tables e below S0 t := by
    intro tX kX
    refine pre4 _ ?_
    show own_s p e below T2 m 4 #[rv a, iv p1] [] _
    refine XS.aloadN X3.here hx rfl (hb hby d7_4) rfl rfl ?_
    show own_s p e below T2 m 5 #[rv a, iv p1] [(.ref a)] _
    refine XS.iloadN X3.here hx rfl (hb hby d7_5) rfl ?_
    exact kX
  obtain ⟨T6, h6, X6, e6, W6, st6⟩ := putF X3 hx hZ hown (host := "") (Or.inl (hw _ (List.mem_of_getElem? (i := 48) rfl))) Via.refl e2 F_v E_a (Or.inr ⟨(hw _ (List.mem_of_getElem? (i := 49) rfl)), rfl, hnm⟩) (hw _ (List.mem_of_getElem? (i := 36) rfl)) (ty := .int) (by decide) rfl rfl (g := (mkF m 6 #[rv a, iv p1] [(.int p1), (.ref a)])) rfl rfl (hb hby d7_6)
  have pre7 : ∀ t, own_s p e below T6 m 9 #[rv a, iv p1] [] t → Steps p.tables e below S0 t := fun tX kX => pre5 _ (st6 _ kX)
  obtain ⟨LL8, X8, N8⟩ : ∃ LL, Stand p l e ({ frames := 2, cells := 0, slots := 0, locals := 30 } : Room) s m #[(.ref a), (.int p1)] below meth c T6 LL 0 0 ∧ Fr n0 LL := ⟨_, X6, Fr.snoc X6 N3 g_a⟩
  have f9_E : Exa Z h6 a "java/lang/Integer" := E_a.wr W6
  have Z10 : n0 ≤ h6.size := Nat.le_trans Z0 (Keep.of_wr W6).1
  have K11 : Keep h0 h6 [a] := K0.wr W6 (Or.inl (List.mem_of_getElem? (i := 0) rfl))
  have f12_F : Fld Z h6 a "java/lang/Integer" "value" "I" (.int p1) := F_v.same W6
  subst hS0
  obtain ⟨fs, hr, hrun, hended, hW, hsame⟩ := X8.leave (v := none) (fun _ => rfl)
  refine ⟨_, _, pre7 _ (X8.returnOut hx Bd.returns (hb hby d7_9) hr), hrun, hended, _, _, rfl, ?_, ⟨_, rfl⟩, hW, hsame.mono (by decide) (by decide)⟩
  show Q7 Z a p1 h0 n0 none T6.heap _
  rw [e6]
  exact ⟨rfl, N8, K11, f9_E⟩
theorem d8_0 : decode jdk_33_method_22_code 0 = .ok (.iload_n 0, 1) := by decide +kernel
theorem d8_1 : decode jdk_33_method_22_code 1 = .ok (.bipush (-128), 2) := by decide +kernel
theorem d8_3 : decode jdk_33_method_22_code 3 = .ok (.if_icmp .lt 20, 3) := by decide +kernel
theorem d8_6 : decode jdk_33_method_22_code 6 = .ok (.iload_n 0, 1) := by decide +kernel
theorem d8_7 : decode jdk_33_method_22_code 7 = .ok (.getstatic 191, 3) := by decide +kernel
theorem d8_10 : decode jdk_33_method_22_code 10 = .ok (.if_icmp .gt 13, 3) := by decide +kernel
theorem d8_13 : decode jdk_33_method_22_code 13 = .ok (.getstatic 195, 3) := by decide +kernel
theorem d8_16 : decode jdk_33_method_22_code 16 = .ok (.iload_n 0, 1) := by decide +kernel
theorem d8_17 : decode jdk_33_method_22_code 17 = .ok (.sipush 128, 3) := by decide +kernel
theorem d8_20 : decode jdk_33_method_22_code 20 = .ok (.iadd, 1) := by decide +kernel
theorem d8_21 : decode jdk_33_method_22_code 21 = .ok (.aaload, 1) := by decide +kernel
theorem d8_22 : decode jdk_33_method_22_code 22 = .ok (.areturn, 1) := by decide +kernel
theorem d8_23 : decode jdk_33_method_22_code 23 = .ok (.new 1, 3) := by decide +kernel
theorem d8_26 : decode jdk_33_method_22_code 26 = .ok (.dup, 1) := by decide +kernel
theorem d8_27 : decode jdk_33_method_22_code 27 = .ok (.iload_n 0, 1) := by decide +kernel
theorem d8_28 : decode jdk_33_method_22_code 28 = .ok (.invokespecial 199, 3) := by decide +kernel
theorem d8_31 : decode jdk_33_method_22_code 31 = .ok (.areturn, 1) := by decide +kernel
theorem pn_8 : plainName "java/lang/Integer" = true := by first | (simp [plainName, overriddenIn]; done) | decide +kernel
theorem pd8_0 : parseMethodDescriptor "(I)V" = some ⟨[.int], none⟩ := by decide +kernel
theorem ef_8 (m : MethodId) (p0 : Int32) : entryFrame m #[(.int p0)] 1 = mkF m 0 #[iv p0] [] := by first | (simp [entryFrame, mkF, argsToLocals, Value.category]; done) | rfl
def Q8 (Z : State) (p0 : Int32) (ca : Addr) (h0 : Heap) (n0 : Nat) (v : Option Value) (h : Heap) (L : List Loc) : Prop := ∃ r : Addr, v = some (.ref r) ∧ Fr n0 L ∧ Keep h0 h [] ∧ Exa Z h r "java/lang/Integer"
set_option maxRecDepth 65536 in
set_option maxHeartbeats 40000000 in
theorem rm8 (l : Launch) (Z : State) (a0 : Array Value) (hw : ∀ d ∈ tables_1, d.before a0 Z = true) (ws : List Jvm.Cond) (p0 : Int32) (ca : Addr) (h0 : Heap) (n0 : Nat) (Z0 : n0 ≤ h0.size) (S_h : Sta Z h0 "java/lang/Integer$IntegerCache" "high" "I" (.int (127 : Int32))) (S_c : Sta Z h0 "java/lang/Integer$IntegerCache" "cache" "[Ljava/lang/Integer;" (.ref ca)) (CA : own_Ca Z h0 ca) :
    MetFree l (⟨"java/lang/Integer", "valueOf", "(I)Ljava/lang/Integer;"⟩ : MethodName) (head1 (Jvm.Cond.code (⟨"java/lang/Integer", "valueOf", "(I)Ljava/lang/Integer;"⟩ : MethodName) jdk_33_method_22_code 1 (some (.object "java/lang/Integer")) :: ws) ({ frames := 3, cells := 1, slots := 1, locals := 50 } : Room)) (fun aX UX => aX = #[(.int p0)] ∧ Z.Warmed39 UX.vm ∧ UX.heap = h0) (fun _ _ _ _ _ => True) (fun _ UX oX UY => ∃ vX LX, oX = .returned vX ∧ Q8 Z p0 ca h0 n0 vX UY.heap LX ∧ FrameEnd UX oX UY LX ({ frames := 3, cells := 1, slots := 1, locals := 50 } : Room).cells ({ frames := 3, cells := 1, slots := 1, locals := 50 } : Room).slots) := by
  refine MetFree.of_bodySF (plainFor_of_name pn_8) hisR ?_
  intro p e s m args below meth c s₁ Bd hml0 hP hK
  obtain ⟨rfl, hZ, hh⟩ := hP
  have hx := Bd.exec
  have hby := Bd.bytes
  have hml : c.maxLocals = 1 := hml0
  have hown : s.vm.findClass "java/lang/Integer" = some m.cls := findClass_of_methodNamed Bd.named
  have hnm := (name_of_methodNamed Bd.named Bd.method).1
  have X0 : Stand p l e ({ frames := 3, cells := 1, slots := 1, locals := 50 } : Room) s m #[(.int p0)] below meth c s₁ [] 0 0 := Stand.of_body Bd
  have e0 : s₁.heap = h0 := by rw [← hh, Bd.state]; rfl
  have N0 := Fr.nil n0
  have pre0 : ∀ t, Steps p.tables e below (s₁.setTop (mkF m 0 #[iv p0] [])) t → Steps p.tables e below (s₁.setTop (entryFrame m #[(.int p0)] 1)) t := fun t k => castTop (ef_8 m p0) k
  obtain ⟨S0, hS0⟩ : ∃ z, z = (s₁.setTop (entryFrame m #[(.int p0)] 1)) := ⟨_, rfl⟩
  rw [← hS0] at pre0
  have K0 : Keep h0 h0 [] := Keep.refl h0 _
  have pre1 : ∀ t, own_s p e below s₁ m 3 #[iv p0] [(.int (-128 : Int32)), (.int p0)] t → Steps p.tables e below S0 t := by
    intro tX kX
    refine pre0 _ ?_
    show own_s p e below s₁ m 0 #[iv p0] [] _
    refine XS.iloadN X0.here hx rfl (hb hby d8_0) rfl ?_
    show own_s p e below s₁ m 1 #[iv p0] [(.int p0)] _
    refine XS.bipush X0.here hx rfl (hb hby d8_1) ?_
    exact kX
  by_cases hc2 : p0 < (-128 : Int32)
  · skip
    have ihc2 : (p0).toInt < (-128 : Int) := Int32.lt_iff_toInt_lt.mp hc2
    have pre3 : ∀ t, own_s p e below s₁ m 23 #[iv p0] [] t → Steps p.tables e below S0 t := by
      intro tX kX
      refine pre1 _ ?_
      show own_s p e below s₁ m 3 #[iv p0] [(.int (-128 : Int32)), (.int p0)] _
      refine XS.icmpYes X0.here hx rfl (pc0 := 3) (pc' := 23) rfl (hb hby d8_3) rfl (tlt hc2).1 (by decide) (by decide) ?_
      exact kX
    obtain ⟨T4, h4, X4, e4, E4, A4, D4, -, st4⟩ := newO X0 hx hZ hown (hw _ (List.mem_of_getElem? (i := 35) rfl)) (hw _ (List.mem_of_getElem? (i := 36) rfl)) (hw _ (List.mem_of_getElem? (i := 33) rfl)) e0 (g := (mkF m 23 #[iv p0] [])) rfl (hb hby d8_23) (by decide) (by decide)
    obtain ⟨b4, g4⟩ : ∃ z, z = h0.size := ⟨_, rfl⟩
    rw [← g4] at A4 D4 st4
    have g_b4 : n0 ≤ b4 := Nat.le_trans Z0 (Nat.le_of_eq g4.symm)
    have sz_b4 : h0.size ≤ b4 := Nat.le_trans K0.1 (Nat.le_of_eq g4.symm)
    have pre5 : ∀ t, own_s p e below T4 m 26 #[iv p0] [(.ref b4)] t → Steps p.tables e below S0 t := fun tX kX => pre3 _ (st4 _ kX)
    have f6_S : Sta Z h4 "java/lang/Integer$IntegerCache" "high" "I" (.int (127 : Int32)) := S_h.ext E4
    have f7_S : Sta Z h4 "java/lang/Integer$IntegerCache" "cache" "[Ljava/lang/Integer;" (.ref ca) := S_c.ext E4
    have Z8 : n0 ≤ h4.size := Nat.le_trans Z0 E4.1
    have K9 : Keep h0 h4 [] := K0.ext E4
    have f10_E : Exa Z h4 b4 "java/lang/Integer" := A4
    have f11_F : Fld Z h4 b4 "java/lang/Integer" "value" "I" (.int (0 : Int32)) := D4 (Or.inr (hw _ (List.mem_of_getElem? (i := 49) rfl))) (ty := .int) (by decide)
    have pre12 : ∀ t, own_s p e below T4 m 28 #[iv p0] [(.int p0), (.ref b4), (.ref b4)] t → Steps p.tables e below S0 t := by
      intro tX kX
      refine pre5 _ ?_
      show own_s p e below T4 m 26 #[iv p0] [(.ref b4)] _
      refine XS.dup X4.here hx rfl (hb hby d8_26) rfl rfl ?_
      show own_s p e below T4 m 27 #[iv p0] [(.ref b4), (.ref b4)] _
      refine XS.iloadN X4.here hx rfl (hb hby d8_27) rfl ?_
      exact kX
    obtain ⟨_, _, ⟨T13, L13, k13, n13⟩, -, X13, ⟨Lc13, hQ13, l13, y13, z13⟩, st13⟩ := X4.specialBack hx (y := (⟨"java/lang/Integer", "<init>", "(I)V"⟩ : MethodName)) rfl hown (mvT hZ (hw _ (List.mem_of_getElem? (i := 37) rfl))) (mvT hZ (hw _ (List.mem_of_getElem? (i := 38) rfl))) (mvT hZ (hw _ (List.mem_of_getElem? (i := 40) rfl))) (by decide) (backOf (W := 1) (rm7 l Z a0 hw [] b4 p0  h4 n0 Z8 f10_E f11_F g_b4) hZ (hw _ (List.mem_of_getElem? (i := 40) rfl)) (hw _ (List.mem_of_getElem? (i := 33) rfl)) (by decide) (by decide)) (g := (mkF m 28 #[iv p0] [(.int p0), (.ref b4), (.ref b4)])) rfl (by rw [hml]; rfl) (Steps.refl _) (a := b4) (argsL := [(.int p0)]) (rest := [(.ref b4)]) (lenOf pd8_0 rfl) rfl (by show 2 * 0 + _ ≤ _; exact Nat.le_of_eq rfl) (hb hby d8_28) (fun _ _ => ⟨rfl, e4, (by decide : 1 + 0 ≤ _), (by decide : 1 + 0 ≤ _)⟩)
    dsimp only [Pt.U, Pt.locs, Pt.cells, Pt.slots] at X13 l13 y13 z13 st13 hQ13
    subst l13 y13 z13
    obtain ⟨rfl, Nq13, Kq13, fE13⟩ := hQ13
    have N13 := Fr.app N0 Nq13
    have e13 : T13.heap = T13.heap := rfl
    have K13 : Keep h0 T13.heap [] := K9.trans Kq13 (allS (Or.inr sz_b4) all0)
    obtain ⟨LL14, X14, N14⟩ : ∃ LL, Stand p l e ({ frames := 3, cells := 1, slots := 1, locals := 50 } : Room) s m #[(.int p0)] below meth c T13 LL 1 1 ∧ Fr n0 LL := ⟨_, X13, N13⟩
    have pre15 : ∀ t, own_s p e below T13 m 31 #[iv p0] [(.ref b4)] t → Steps p.tables e below S0 t := fun tX kX => pre12 _ (st13.trans kX)
    subst hS0
    obtain ⟨fs, hr, hrun, hended, hW, hsame⟩ := X14.leave (v := (some (.ref b4))) (fun h => by rw [Bd.returns] at h; cases h)
    refine ⟨_, _, pre15 _ (retOut X14 hx Bd.returns (own_narR rfl) (Or.inr (Or.inr (Or.inr (Or.inr ⟨rfl, rfl, rfl⟩)))) (hb hby d8_31) hr), hrun, hended, _, _, rfl, ?_, ⟨_, rfl⟩, hW, hsame.mono (by decide) (by decide)⟩
    show Q8 Z p0 ca h0 n0 (some (.ref b4)) T13.heap _
    exact ⟨b4, rfl, N14, K13, fE13⟩
  · skip
    have ihc2 : ¬ ((p0).toInt < (-128 : Int)) := fun q => hc2 (Int32.lt_iff_toInt_lt.mpr q)
    have pre16 : ∀ t, own_s p e below s₁ m 7 #[iv p0] [(.int p0)] t → Steps p.tables e below S0 t := by
      intro tX kX
      refine pre1 _ ?_
      show own_s p e below s₁ m 3 #[iv p0] [(.int (-128 : Int32)), (.int p0)] _
      refine XS.icmpNo X0.here hx rfl (hb hby d8_3) rfl (flt hc2).1 ?_
      show own_s p e below s₁ m 6 #[iv p0] [] _
      refine XS.iloadN X0.here hx rfl (hb hby d8_6) rfl ?_
      exact kX
    obtain ⟨T17, X17, e17, st17⟩ := getS2 X0 hx hZ hown (host := "") (Or.inl (hw _ (List.mem_of_getElem? (i := 53) rfl))) Via.refl e0 S_h (g := (mkF m 7 #[iv p0] [(.int p0)])) rfl (hb hby d8_7)
    have pre18 : ∀ t, own_s p e below T17 m 10 #[iv p0] [(.int (127 : Int32)), (.int p0)] t → Steps p.tables e below S0 t := fun tX kX => pre16 _ (st17 _ kX)
    by_cases hc19 : (127 : Int32) < p0
    · skip
      have ihc19 : (127 : Int) < (p0).toInt := Int32.lt_iff_toInt_lt.mp hc19
      have pre20 : ∀ t, own_s p e below T17 m 23 #[iv p0] [] t → Steps p.tables e below S0 t := by
        intro tX kX
        refine pre18 _ ?_
        show own_s p e below T17 m 10 #[iv p0] [(.int (127 : Int32)), (.int p0)] _
        refine XS.icmpYes X17.here hx rfl (pc0 := 10) (pc' := 23) rfl (hb hby d8_10) rfl (tlt hc19).2.2.1 (by decide) (by decide) ?_
        exact kX
      obtain ⟨T21, h21, X21, e21, E21, A21, D21, -, st21⟩ := newO X17 hx hZ hown (hw _ (List.mem_of_getElem? (i := 35) rfl)) (hw _ (List.mem_of_getElem? (i := 36) rfl)) (hw _ (List.mem_of_getElem? (i := 33) rfl)) e17 (g := (mkF m 23 #[iv p0] [])) rfl (hb hby d8_23) (by decide) (by decide)
      obtain ⟨b21, g21⟩ : ∃ z, z = h0.size := ⟨_, rfl⟩
      rw [← g21] at A21 D21 st21
      have g_b21 : n0 ≤ b21 := Nat.le_trans Z0 (Nat.le_of_eq g21.symm)
      have sz_b21 : h0.size ≤ b21 := Nat.le_trans K0.1 (Nat.le_of_eq g21.symm)
      have pre22 : ∀ t, own_s p e below T21 m 26 #[iv p0] [(.ref b21)] t → Steps p.tables e below S0 t := fun tX kX => pre20 _ (st21 _ kX)
      have f23_S : Sta Z h21 "java/lang/Integer$IntegerCache" "high" "I" (.int (127 : Int32)) := S_h.ext E21
      have f24_S : Sta Z h21 "java/lang/Integer$IntegerCache" "cache" "[Ljava/lang/Integer;" (.ref ca) := S_c.ext E21
      have Z25 : n0 ≤ h21.size := Nat.le_trans Z0 E21.1
      have K26 : Keep h0 h21 [] := K0.ext E21
      have f27_E : Exa Z h21 b21 "java/lang/Integer" := A21
      have f28_F : Fld Z h21 b21 "java/lang/Integer" "value" "I" (.int (0 : Int32)) := D21 (Or.inr (hw _ (List.mem_of_getElem? (i := 49) rfl))) (ty := .int) (by decide)
      have pre29 : ∀ t, own_s p e below T21 m 28 #[iv p0] [(.int p0), (.ref b21), (.ref b21)] t → Steps p.tables e below S0 t := by
        intro tX kX
        refine pre22 _ ?_
        show own_s p e below T21 m 26 #[iv p0] [(.ref b21)] _
        refine XS.dup X21.here hx rfl (hb hby d8_26) rfl rfl ?_
        show own_s p e below T21 m 27 #[iv p0] [(.ref b21), (.ref b21)] _
        refine XS.iloadN X21.here hx rfl (hb hby d8_27) rfl ?_
        exact kX
      obtain ⟨_, _, ⟨T30, L30, k30, n30⟩, -, X30, ⟨Lc30, hQ30, l30, y30, z30⟩, st30⟩ := X21.specialBack hx (y := (⟨"java/lang/Integer", "<init>", "(I)V"⟩ : MethodName)) rfl hown (mvT hZ (hw _ (List.mem_of_getElem? (i := 37) rfl))) (mvT hZ (hw _ (List.mem_of_getElem? (i := 38) rfl))) (mvT hZ (hw _ (List.mem_of_getElem? (i := 40) rfl))) (by decide) (backOf (W := 1) (rm7 l Z a0 hw [] b21 p0  h21 n0 Z25 f27_E f28_F g_b21) hZ (hw _ (List.mem_of_getElem? (i := 40) rfl)) (hw _ (List.mem_of_getElem? (i := 33) rfl)) (by decide) (by decide)) (g := (mkF m 28 #[iv p0] [(.int p0), (.ref b21), (.ref b21)])) rfl (by rw [hml]; rfl) (Steps.refl _) (a := b21) (argsL := [(.int p0)]) (rest := [(.ref b21)]) (lenOf pd8_0 rfl) rfl (by show 2 * 0 + _ ≤ _; exact Nat.le_of_eq rfl) (hb hby d8_28) (fun _ _ => ⟨rfl, e21, (by decide : 1 + 0 ≤ _), (by decide : 1 + 0 ≤ _)⟩)
      dsimp only [Pt.U, Pt.locs, Pt.cells, Pt.slots] at X30 l30 y30 z30 st30 hQ30
      subst l30 y30 z30
      obtain ⟨rfl, Nq30, Kq30, fE30⟩ := hQ30
      have N30 := Fr.app N0 Nq30
      have e30 : T30.heap = T30.heap := rfl
      have K30 : Keep h0 T30.heap [] := K26.trans Kq30 (allS (Or.inr sz_b21) all0)
      obtain ⟨LL31, X31, N31⟩ : ∃ LL, Stand p l e ({ frames := 3, cells := 1, slots := 1, locals := 50 } : Room) s m #[(.int p0)] below meth c T30 LL 1 1 ∧ Fr n0 LL := ⟨_, X30, N30⟩
      have pre32 : ∀ t, own_s p e below T30 m 31 #[iv p0] [(.ref b21)] t → Steps p.tables e below S0 t := fun tX kX => pre29 _ (st30.trans kX)
      subst hS0
      obtain ⟨fs, hr, hrun, hended, hW, hsame⟩ := X31.leave (v := (some (.ref b21))) (fun h => by rw [Bd.returns] at h; cases h)
      refine ⟨_, _, pre32 _ (retOut X31 hx Bd.returns (own_narR rfl) (Or.inr (Or.inr (Or.inr (Or.inr ⟨rfl, rfl, rfl⟩)))) (hb hby d8_31) hr), hrun, hended, _, _, rfl, ?_, ⟨_, rfl⟩, hW, hsame.mono (by decide) (by decide)⟩
      show Q8 Z p0 ca h0 n0 (some (.ref b21)) T30.heap _
      exact ⟨b21, rfl, N31, K30, fE30⟩
    · skip
      have ihc19 : ¬ ((127 : Int) < (p0).toInt) := fun q => hc19 (Int32.lt_iff_toInt_lt.mpr q)
      have pre33 : ∀ t, own_s p e below T17 m 13 #[iv p0] [] t → Steps p.tables e below S0 t := by
        intro tX kX
        refine pre18 _ ?_
        show own_s p e below T17 m 10 #[iv p0] [(.int (127 : Int32)), (.int p0)] _
        refine XS.icmpNo X17.here hx rfl (hb hby d8_10) rfl (flt hc19).2.2.1 ?_
        exact kX
      obtain ⟨T34, X34, e34, st34⟩ := getS2 X17 hx hZ hown (host := "") (Or.inl (hw _ (List.mem_of_getElem? (i := 55) rfl))) Via.refl e17 S_c (g := (mkF m 13 #[iv p0] [])) rfl (hb hby d8_13)
      have pre35 : ∀ t, own_s p e below T34 m 16 #[iv p0] [(.ref ca)] t → Steps p.tables e below S0 t := fun tX kX => pre33 _ (st34 _ kX)
      have pre36 : ∀ t, own_s p e below T34 m 21 #[iv p0] [(.int (p0 + (128 : Int32))), (.ref ca)] t → Steps p.tables e below S0 t := by
        intro tX kX
        refine pre35 _ ?_
        show own_s p e below T34 m 16 #[iv p0] [(.ref ca)] _
        refine XS.iloadN X34.here hx rfl (hb hby d8_16) rfl ?_
        show own_s p e below T34 m 17 #[iv p0] [(.int p0), (.ref ca)] _
        refine XS.sipush X34.here hx rfl (hb hby d8_17) ?_
        show own_s p e below T34 m 20 #[iv p0] [(.int (128 : Int32)), (.int p0), (.ref ca)] _
        refine XS.iadd X34.here hx rfl (hb hby d8_20) rfl ?_
        exact kX
      obtain ⟨cl, Ar, Sz, H⟩ := CA
      have d1 := c_iadd p0 128
      have d2 := rng32 (p0 + 128)
      have d3 : (128 : Int32).toInt = 128 := rfl
      have ix : ¬ (p0 + (128 : Int32)) < 0 ∧ (p0 + (128 : Int32)).toNatClampNeg < 256 := own_idx (by omega) (by omega)
      obtain ⟨r, hr0, ER⟩ := H _ ix.2
      have pre37 : ∀ t, own_s p e below T34 m 22 #[iv p0] [(.ref r)] t → Steps p.tables e below S0 t := by
        intro tX kX
        refine pre36 _ ?_
        show own_s p e below T34 m 21 #[iv p0] [(.int (p0 + (128 : Int32))), (.ref ca)] _
        refine X34.aaload hx (j := (p0 + (128 : Int32))) (v := (.ref r)) (by rw [e34]; exact Ar.1) (State.isArrayOf_alike hZ.alike Ar.2.1) rfl Ar.2.2 (fun q => q.elim ix.1 (fun w => absurd ix.2 (Nat.not_lt.mpr (Sz ▸ w)))) hr0 (g := (mkF m 21 #[iv p0] [(.int (p0 + (128 : Int32))), (.ref ca)])) rfl rfl (hb hby d8_21) _ ?_
        exact kX
      subst hS0
      obtain ⟨fs, hr, hrun, hended, hW, hsame⟩ := X34.leave (v := (some (.ref r))) (fun h => by rw [Bd.returns] at h; cases h)
      refine ⟨_, _, pre37 _ (retOut X34 hx Bd.returns (own_narR rfl) (Or.inr (Or.inr (Or.inr (Or.inr ⟨rfl, rfl, rfl⟩)))) (hb hby d8_22) hr), hrun, hended, _, _, rfl, ?_, ⟨_, rfl⟩, hW, hsame.mono (by decide) (by decide)⟩
      show Q8 Z p0 ca h0 n0 (some (.ref r)) T34.heap _
      rw [e34]
      exact ⟨r, rfl, N0, K0, ER⟩
theorem pn_0 : plainName "com/example/farcall/farcall/service/BindingKeyEqualsPinLaw" = true := by first | (simp [plainName, overriddenIn]; done) | decide +kernel
theorem pd0_0 : parseMethodDescriptor "(I)Lcom/example/farcall/farcall/io/Transport;" = some ⟨[.int], some (.object "com/example/farcall/farcall/io/Transport")⟩ := by decide +kernel
theorem pd0_1 : parseMethodDescriptor "(IILcom/example/farcall/farcall/io/Transport;)V" = some ⟨[.int, .int, (.object "com/example/farcall/farcall/io/Transport")], none⟩ := by decide +kernel
theorem pd0_2 : parseMethodDescriptor "(Ljava/lang/Object;)Z" = some ⟨[(.object "java/lang/Object")], some .boolean⟩ := by decide +kernel
theorem pd0_3 : parseMethodDescriptor "(I)Ljava/lang/Integer;" = some ⟨[.int], some (.object "java/lang/Integer")⟩ := by decide +kernel
theorem ef_0 (m : MethodId) (i0 : Int32) (i1 : Int32) (i2 : Int32) (i3 : Int32) (i4 : Int32) (i5 : Int32) : entryFrame m #[(.int i0), (.int i1), (.int i2), (.int i3), (.int i4), (.int i5)] maxLocals = mkF m 0 #[iv i0, iv i1, iv i2, iv i3, iv i4, iv i5, .unset, .unset, .unset, .unset, .unset, .unset, .unset, .unset, .unset, .unset] [] := by first | (simp [entryFrame, mkF, argsToLocals, Value.category, maxLocals]; done) | rfl
def Q0 (Z : State) (i0 : Int32) (i1 : Int32) (i2 : Int32) (i3 : Int32) (i4 : Int32) (i5 : Int32) (U : Addr) (T : Addr) (ca : Addr) (h0 : Heap) (n0 : Nat) (v : Option Value) (h : Heap) (L : List Loc) : Prop := v = some (.int 1) ∧ Fr n0 L
set_option maxRecDepth 65536 in
set_option maxHeartbeats 40000000 in
theorem rm0 (l : Launch) (Z : State) (a0 : Array Value) (hw : ∀ d ∈ tables_1, d.before a0 Z = true) (ws : List Jvm.Cond) (i0 : Int32) (i1 : Int32) (i2 : Int32) (i3 : Int32) (i4 : Int32) (i5 : Int32) (U : Addr) (T : Addr) (ca : Addr) (h0 : Heap) (n0 : Nat) (Z0 : n0 ≤ h0.size) (X00 : Old Z n0 h0) (S_U : Sta Z Z.heap "com/example/farcall/farcall/io/Transport" "UDP" "Lcom/example/farcall/farcall/io/Transport;" (.ref U)) (S_T : Sta Z Z.heap "com/example/farcall/farcall/io/Transport" "TCP" "Lcom/example/farcall/farcall/io/Transport;" (.ref T)) (S_h : Sta Z Z.heap "java/lang/Integer$IntegerCache" "high" "I" (.int (127 : Int32))) (S_c : Sta Z Z.heap "java/lang/Integer$IntegerCache" "cache" "[Ljava/lang/Integer;" (.ref ca)) (CA : own_Ca Z Z.heap ca) :
    MetFree l x (head1 (Jvm.Cond.code x code maxLocals ret :: ws) room_1) (fun aX UX => aX = #[(.int i0), (.int i1), (.int i2), (.int i3), (.int i4), (.int i5)] ∧ Z.Warmed39 UX.vm ∧ UX.heap = h0) (fun _ _ _ _ _ => True) (fun _ UX oX UY => ∃ vX LX, oX = .returned vX ∧ Q0 Z i0 i1 i2 i3 i4 i5 U T ca h0 n0 vX UY.heap LX ∧ FrameEnd UX oX UY LX 3 7) := by
  refine MetFree.of_bodySF (plainFor_of_name pn_0) hisR ?_
  intro p e s m args below meth c s₁ Bd hml0 hP hK
  obtain ⟨rfl, hZ, hh⟩ := hP
  have hx := Bd.exec
  have hby := Bd.bytes
  have hml : c.maxLocals = 16 := hml0
  have hown : s.vm.findClass "com/example/farcall/farcall/service/BindingKeyEqualsPinLaw" = some m.cls := findClass_of_methodNamed Bd.named
  have hnm := (name_of_methodNamed Bd.named Bd.method).1
  have X0 : Stand p l e room_1 s m #[(.int i0), (.int i1), (.int i2), (.int i3), (.int i4), (.int i5)] below meth c s₁ [] 0 0 := Stand.of_body Bd
  have e0 : s₁.heap = h0 := by rw [← hh, Bd.state]; rfl
  have N0 := Fr.nil n0
  have pre0 : ∀ t, Steps p.tables e below (s₁.setTop (mkF m 0 #[iv i0, iv i1, iv i2, iv i3, iv i4, iv i5, .unset, .unset, .unset, .unset, .unset, .unset, .unset, .unset, .unset, .unset] [])) t → Steps p.tables e below (s₁.setTop (entryFrame m #[(.int i0), (.int i1), (.int i2), (.int i3), (.int i4), (.int i5)] maxLocals)) t := fun t k => castTop (ef_0 m i0 i1 i2 i3 i4 i5) k
  obtain ⟨S0, hS0⟩ : ∃ z, z = (s₁.setTop (entryFrame m #[(.int i0), (.int i1), (.int i2), (.int i3), (.int i4), (.int i5)] maxLocals)) := ⟨_, rfl⟩
  rw [← hS0] at pre0
  have pre1 : ∀ t, own_s p e below s₁ m 4 #[iv i0, iv i1, iv i2, iv i3, iv i4, iv i5, .unset, .unset, .unset, .unset, .unset, .unset, .unset, .unset, .unset, .unset] [(.int (i4 &&& (3 : Int32)))] t → Steps p.tables e below S0 t := by
    intro tX kX
    refine pre0 _ ?_
    show own_s p e below s₁ m 0 #[iv i0, iv i1, iv i2, iv i3, iv i4, iv i5, .unset, .unset, .unset, .unset, .unset, .unset, .unset, .unset, .unset, .unset] [] _
    refine XS.iload X0.here hx rfl (hb hby at_0) rfl ?_
    show own_s p e below s₁ m 2 #[iv i0, iv i1, iv i2, iv i3, iv i4, iv i5, .unset, .unset, .unset, .unset, .unset, .unset, .unset, .unset, .unset, .unset] [(.int i4)] _
    refine XS.iconst X0.here hx rfl (hb hby at_2) ?_
    show own_s p e below s₁ m 3 #[iv i0, iv i1, iv i2, iv i3, iv i4, iv i5, .unset, .unset, .unset, .unset, .unset, .unset, .unset, .unset, .unset, .unset] [(.int (3 : Int32)), (.int i4)] _
    refine XS.iand X0.here hx rfl (hb hby at_3) rfl ?_
    exact kX
  obtain ⟨s1, hs1⟩ : ∃ z : Int32, z = (i4 &&& (3 : Int32)) := ⟨_, rfl⟩
  rw [← hs1] at pre1
  have pre2 : ∀ t, own_s p e below s₁ m 12 #[iv i0, iv i1, iv i2, iv i3, iv i4, iv i5, iv s1, .unset, .unset, .unset, .unset, .unset, .unset, .unset, .unset, .unset] [(.int (((i4.toUInt32 >>> ((2 : Int32) &&& 31).toUInt32).toInt32) &&& (3 : Int32)))] t → Steps p.tables e below S0 t := by
    intro tX kX
    refine pre1 _ ?_
    show own_s p e below s₁ m 4 #[iv i0, iv i1, iv i2, iv i3, iv i4, iv i5, .unset, .unset, .unset, .unset, .unset, .unset, .unset, .unset, .unset, .unset] [(.int s1)] _
    refine XS.istore X0.here hx rfl (hb hby at_4) rfl (l' := #[iv i0, iv i1, iv i2, iv i3, iv i4, iv i5, iv s1, .unset, .unset, .unset, .unset, .unset, .unset, .unset, .unset, .unset]) rfl ?_
    show own_s p e below s₁ m 6 #[iv i0, iv i1, iv i2, iv i3, iv i4, iv i5, iv s1, .unset, .unset, .unset, .unset, .unset, .unset, .unset, .unset, .unset] [] _
    refine XS.iload X0.here hx rfl (hb hby at_6) rfl ?_
    show own_s p e below s₁ m 8 #[iv i0, iv i1, iv i2, iv i3, iv i4, iv i5, iv s1, .unset, .unset, .unset, .unset, .unset, .unset, .unset, .unset, .unset] [(.int i4)] _
    refine XS.iconst X0.here hx rfl (hb hby at_8) ?_
    show own_s p e below s₁ m 9 #[iv i0, iv i1, iv i2, iv i3, iv i4, iv i5, iv s1, .unset, .unset, .unset, .unset, .unset, .unset, .unset, .unset, .unset] [(.int (2 : Int32)), (.int i4)] _
    refine XS.iushr X0.here hx rfl (hb hby at_9) rfl ?_
    show own_s p e below s₁ m 10 #[iv i0, iv i1, iv i2, iv i3, iv i4, iv i5, iv s1, .unset, .unset, .unset, .unset, .unset, .unset, .unset, .unset, .unset] [(.int ((i4.toUInt32 >>> ((2 : Int32) &&& 31).toUInt32).toInt32))] _
    refine XS.iconst X0.here hx rfl (hb hby at_10) ?_
    show own_s p e below s₁ m 11 #[iv i0, iv i1, iv i2, iv i3, iv i4, iv i5, iv s1, .unset, .unset, .unset, .unset, .unset, .unset, .unset, .unset, .unset] [(.int (3 : Int32)), (.int ((i4.toUInt32 >>> ((2 : Int32) &&& 31).toUInt32).toInt32))] _
    refine XS.iand X0.here hx rfl (hb hby at_11) rfl ?_
    exact kX
  obtain ⟨s2, hs2⟩ : ∃ z : Int32, z = (((i4.toUInt32 >>> ((2 : Int32) &&& 31).toUInt32).toInt32) &&& (3 : Int32)) := ⟨_, rfl⟩
  rw [← hs2] at pre2
  have pre3 : ∀ t, own_s p e below s₁ m 14 #[iv i0, iv i1, iv i2, iv i3, iv i4, iv i5, iv s1, iv s2, .unset, .unset, .unset, .unset, .unset, .unset, .unset, .unset] [] t → Steps p.tables e below S0 t := by
    intro tX kX
    refine pre2 _ ?_
    show own_s p e below s₁ m 12 #[iv i0, iv i1, iv i2, iv i3, iv i4, iv i5, iv s1, .unset, .unset, .unset, .unset, .unset, .unset, .unset, .unset, .unset] [(.int s2)] _
    refine XS.istore X0.here hx rfl (hb hby at_12) rfl (l' := #[iv i0, iv i1, iv i2, iv i3, iv i4, iv i5, iv s1, iv s2, .unset, .unset, .unset, .unset, .unset, .unset, .unset, .unset]) rfl ?_
    exact kX
  have pre4 : ∀ t, own_s p e below s₁ m 23 #[iv i0, iv i1, iv (if (i5 &&& (1 : Int32)) = 0 then i2 else i0), iv i3, iv i4, iv i5, iv s1, iv s2, .unset, .unset, .unset, .unset, .unset, .unset, .unset, .unset] [] t → Steps p.tables e below S0 t := by
    intro tX kX
    have pre5 : ∀ t, own_s p e below s₁ m 18 #[iv i0, iv i1, iv i2, iv i3, iv i4, iv i5, iv s1, iv s2, .unset, .unset, .unset, .unset, .unset, .unset, .unset, .unset] [(.int (i5 &&& (1 : Int32)))] t → Steps p.tables e below S0 t := by
      intro tX kX
      refine pre3 _ ?_
      show own_s p e below s₁ m 14 #[iv i0, iv i1, iv i2, iv i3, iv i4, iv i5, iv s1, iv s2, .unset, .unset, .unset, .unset, .unset, .unset, .unset, .unset] [] _
      refine XS.iload X0.here hx rfl (hb hby at_14) rfl ?_
      show own_s p e below s₁ m 16 #[iv i0, iv i1, iv i2, iv i3, iv i4, iv i5, iv s1, iv s2, .unset, .unset, .unset, .unset, .unset, .unset, .unset, .unset] [(.int i5)] _
      refine XS.iconst X0.here hx rfl (hb hby at_16) ?_
      show own_s p e below s₁ m 17 #[iv i0, iv i1, iv i2, iv i3, iv i4, iv i5, iv s1, iv s2, .unset, .unset, .unset, .unset, .unset, .unset, .unset, .unset] [(.int (1 : Int32)), (.int i5)] _
      refine XS.iand X0.here hx rfl (hb hby at_17) rfl ?_
      exact kX
    by_cases hc6 : (i5 &&& (1 : Int32)) = (0 : Int32)
    · skip
      have pre7 : ∀ t, own_s p e below s₁ m 23 #[iv i0, iv i1, iv i2, iv i3, iv i4, iv i5, iv s1, iv s2, .unset, .unset, .unset, .unset, .unset, .unset, .unset, .unset] [] t → Steps p.tables e below S0 t := by
        intro tX kX
        refine pre5 _ ?_
        show own_s p e below s₁ m 18 #[iv i0, iv i1, iv i2, iv i3, iv i4, iv i5, iv s1, iv s2, .unset, .unset, .unset, .unset, .unset, .unset, .unset, .unset] [(.int (i5 &&& (1 : Int32)))] _
        refine XS.ifYes X0.here hx rfl (pc0 := 18) (pc' := 23) rfl (hb hby at_18) rfl ((if0 _ _).trans (teq hc6).1) (by decide) (by decide) ?_
        exact kX
      exact pre7 _ (castTop (show (mkF m 23 #[iv i0, iv i1, iv i2, iv i3, iv i4, iv i5, iv s1, iv s2, .unset, .unset, .unset, .unset, .unset, .unset, .unset, .unset] []) = (mkF m 23 #[iv i0, iv i1, iv (if (i5 &&& (1 : Int32)) = 0 then i2 else i0), iv i3, iv i4, iv i5, iv s1, iv s2, .unset, .unset, .unset, .unset, .unset, .unset, .unset, .unset] []) from by rw [if_pos hc6]) kX)
    · skip
      have pre8 : ∀ t, own_s p e below s₁ m 23 #[iv i0, iv i1, iv i0, iv i3, iv i4, iv i5, iv s1, iv s2, .unset, .unset, .unset, .unset, .unset, .unset, .unset, .unset] [] t → Steps p.tables e below S0 t := by
        intro tX kX
        refine pre5 _ ?_
        show own_s p e below s₁ m 18 #[iv i0, iv i1, iv i2, iv i3, iv i4, iv i5, iv s1, iv s2, .unset, .unset, .unset, .unset, .unset, .unset, .unset, .unset] [(.int (i5 &&& (1 : Int32)))] _
        refine XS.ifNo X0.here hx rfl (hb hby at_18) rfl ((if0 _ _).trans (feq hc6).1) ?_
        show own_s p e below s₁ m 21 #[iv i0, iv i1, iv i2, iv i3, iv i4, iv i5, iv s1, iv s2, .unset, .unset, .unset, .unset, .unset, .unset, .unset, .unset] [] _
        refine XS.iloadN X0.here hx rfl (hb hby at_21) rfl ?_
        show own_s p e below s₁ m 22 #[iv i0, iv i1, iv i2, iv i3, iv i4, iv i5, iv s1, iv s2, .unset, .unset, .unset, .unset, .unset, .unset, .unset, .unset] [(.int i0)] _
        refine XS.istoreN X0.here hx rfl (hb hby at_22) rfl (l' := #[iv i0, iv i1, iv i0, iv i3, iv i4, iv i5, iv s1, iv s2, .unset, .unset, .unset, .unset, .unset, .unset, .unset, .unset]) rfl ?_
        exact kX
      exact pre8 _ (castTop (show (mkF m 23 #[iv i0, iv i1, iv i0, iv i3, iv i4, iv i5, iv s1, iv s2, .unset, .unset, .unset, .unset, .unset, .unset, .unset, .unset] []) = (mkF m 23 #[iv i0, iv i1, iv (if (i5 &&& (1 : Int32)) = 0 then i2 else i0), iv i3, iv i4, iv i5, iv s1, iv s2, .unset, .unset, .unset, .unset, .unset, .unset, .unset, .unset] []) from by rw [if_neg hc6]) kX)
  obtain ⟨p2, hp2⟩ : ∃ z : Int32, z = (if (i5 &&& (1 : Int32)) = 0 then i2 else i0) := ⟨_, rfl⟩
  rw [← hp2] at pre4
  have pre9 : ∀ t, own_s p e below s₁ m 32 #[iv i0, iv i1, iv p2, iv (if (i5 &&& (2 : Int32)) = 0 then i3 else i1), iv i4, iv i5, iv s1, iv s2, .unset, .unset, .unset, .unset, .unset, .unset, .unset, .unset] [] t → Steps p.tables e below S0 t := by
    intro tX kX
    have pre10 : ∀ t, own_s p e below s₁ m 27 #[iv i0, iv i1, iv p2, iv i3, iv i4, iv i5, iv s1, iv s2, .unset, .unset, .unset, .unset, .unset, .unset, .unset, .unset] [(.int (i5 &&& (2 : Int32)))] t → Steps p.tables e below S0 t := by
      intro tX kX
      refine pre4 _ ?_
      show own_s p e below s₁ m 23 #[iv i0, iv i1, iv p2, iv i3, iv i4, iv i5, iv s1, iv s2, .unset, .unset, .unset, .unset, .unset, .unset, .unset, .unset] [] _
      refine XS.iload X0.here hx rfl (hb hby at_23) rfl ?_
      show own_s p e below s₁ m 25 #[iv i0, iv i1, iv p2, iv i3, iv i4, iv i5, iv s1, iv s2, .unset, .unset, .unset, .unset, .unset, .unset, .unset, .unset] [(.int i5)] _
      refine XS.iconst X0.here hx rfl (hb hby at_25) ?_
      show own_s p e below s₁ m 26 #[iv i0, iv i1, iv p2, iv i3, iv i4, iv i5, iv s1, iv s2, .unset, .unset, .unset, .unset, .unset, .unset, .unset, .unset] [(.int (2 : Int32)), (.int i5)] _
      refine XS.iand X0.here hx rfl (hb hby at_26) rfl ?_
      exact kX
    by_cases hc11 : (i5 &&& (2 : Int32)) = (0 : Int32)
    · skip
      have pre12 : ∀ t, own_s p e below s₁ m 32 #[iv i0, iv i1, iv p2, iv i3, iv i4, iv i5, iv s1, iv s2, .unset, .unset, .unset, .unset, .unset, .unset, .unset, .unset] [] t → Steps p.tables e below S0 t := by
        intro tX kX
        refine pre10 _ ?_
        show own_s p e below s₁ m 27 #[iv i0, iv i1, iv p2, iv i3, iv i4, iv i5, iv s1, iv s2, .unset, .unset, .unset, .unset, .unset, .unset, .unset, .unset] [(.int (i5 &&& (2 : Int32)))] _
        refine XS.ifYes X0.here hx rfl (pc0 := 27) (pc' := 32) rfl (hb hby at_27) rfl ((if0 _ _).trans (teq hc11).1) (by decide) (by decide) ?_
        exact kX
      exact pre12 _ (castTop (show (mkF m 32 #[iv i0, iv i1, iv p2, iv i3, iv i4, iv i5, iv s1, iv s2, .unset, .unset, .unset, .unset, .unset, .unset, .unset, .unset] []) = (mkF m 32 #[iv i0, iv i1, iv p2, iv (if (i5 &&& (2 : Int32)) = 0 then i3 else i1), iv i4, iv i5, iv s1, iv s2, .unset, .unset, .unset, .unset, .unset, .unset, .unset, .unset] []) from by rw [if_pos hc11]) kX)
    · skip
      have pre13 : ∀ t, own_s p e below s₁ m 32 #[iv i0, iv i1, iv p2, iv i1, iv i4, iv i5, iv s1, iv s2, .unset, .unset, .unset, .unset, .unset, .unset, .unset, .unset] [] t → Steps p.tables e below S0 t := by
        intro tX kX
        refine pre10 _ ?_
        show own_s p e below s₁ m 27 #[iv i0, iv i1, iv p2, iv i3, iv i4, iv i5, iv s1, iv s2, .unset, .unset, .unset, .unset, .unset, .unset, .unset, .unset] [(.int (i5 &&& (2 : Int32)))] _
        refine XS.ifNo X0.here hx rfl (hb hby at_27) rfl ((if0 _ _).trans (feq hc11).1) ?_
        show own_s p e below s₁ m 30 #[iv i0, iv i1, iv p2, iv i3, iv i4, iv i5, iv s1, iv s2, .unset, .unset, .unset, .unset, .unset, .unset, .unset, .unset] [] _
        refine XS.iloadN X0.here hx rfl (hb hby at_30) rfl ?_
        show own_s p e below s₁ m 31 #[iv i0, iv i1, iv p2, iv i3, iv i4, iv i5, iv s1, iv s2, .unset, .unset, .unset, .unset, .unset, .unset, .unset, .unset] [(.int i1)] _
        refine XS.istoreN X0.here hx rfl (hb hby at_31) rfl (l' := #[iv i0, iv i1, iv p2, iv i1, iv i4, iv i5, iv s1, iv s2, .unset, .unset, .unset, .unset, .unset, .unset, .unset, .unset]) rfl ?_
        exact kX
      exact pre13 _ (castTop (show (mkF m 32 #[iv i0, iv i1, iv p2, iv i1, iv i4, iv i5, iv s1, iv s2, .unset, .unset, .unset, .unset, .unset, .unset, .unset, .unset] []) = (mkF m 32 #[iv i0, iv i1, iv p2, iv (if (i5 &&& (2 : Int32)) = 0 then i3 else i1), iv i4, iv i5, iv s1, iv s2, .unset, .unset, .unset, .unset, .unset, .unset, .unset, .unset] []) from by rw [if_neg hc11]) kX)
  obtain ⟨v2, hv2⟩ : ∃ z : Int32, z = (if (i5 &&& (2 : Int32)) = 0 then i3 else i1) := ⟨_, rfl⟩
  rw [← hv2] at pre9
  have pre14 : ∀ t, own_s p e below s₁ m 43 #[iv i0, iv i1, iv p2, iv v2, iv i4, iv i5, iv s1, iv (if (i5 &&& (4 : Int32)) = 0 then s2 else s1), .unset, .unset, .unset, .unset, .unset, .unset, .unset, .unset] [] t → Steps p.tables e below S0 t := by
    intro tX kX
    have pre15 : ∀ t, own_s p e below s₁ m 36 #[iv i0, iv i1, iv p2, iv v2, iv i4, iv i5, iv s1, iv s2, .unset, .unset, .unset, .unset, .unset, .unset, .unset, .unset] [(.int (i5 &&& (4 : Int32)))] t → Steps p.tables e below S0 t := by
      intro tX kX
      refine pre9 _ ?_
      show own_s p e below s₁ m 32 #[iv i0, iv i1, iv p2, iv v2, iv i4, iv i5, iv s1, iv s2, .unset, .unset, .unset, .unset, .unset, .unset, .unset, .unset] [] _
      refine XS.iload X0.here hx rfl (hb hby at_32) rfl ?_
      show own_s p e below s₁ m 34 #[iv i0, iv i1, iv p2, iv v2, iv i4, iv i5, iv s1, iv s2, .unset, .unset, .unset, .unset, .unset, .unset, .unset, .unset] [(.int i5)] _
      refine XS.iconst X0.here hx rfl (hb hby at_34) ?_
      show own_s p e below s₁ m 35 #[iv i0, iv i1, iv p2, iv v2, iv i4, iv i5, iv s1, iv s2, .unset, .unset, .unset, .unset, .unset, .unset, .unset, .unset] [(.int (4 : Int32)), (.int i5)] _
      refine XS.iand X0.here hx rfl (hb hby at_35) rfl ?_
      exact kX
    by_cases hc16 : (i5 &&& (4 : Int32)) = (0 : Int32)
    · skip
      have pre17 : ∀ t, own_s p e below s₁ m 43 #[iv i0, iv i1, iv p2, iv v2, iv i4, iv i5, iv s1, iv s2, .unset, .unset, .unset, .unset, .unset, .unset, .unset, .unset] [] t → Steps p.tables e below S0 t := by
        intro tX kX
        refine pre15 _ ?_
        show own_s p e below s₁ m 36 #[iv i0, iv i1, iv p2, iv v2, iv i4, iv i5, iv s1, iv s2, .unset, .unset, .unset, .unset, .unset, .unset, .unset, .unset] [(.int (i5 &&& (4 : Int32)))] _
        refine XS.ifYes X0.here hx rfl (pc0 := 36) (pc' := 43) rfl (hb hby at_36) rfl ((if0 _ _).trans (teq hc16).1) (by decide) (by decide) ?_
        exact kX
      exact pre17 _ (castTop (show (mkF m 43 #[iv i0, iv i1, iv p2, iv v2, iv i4, iv i5, iv s1, iv s2, .unset, .unset, .unset, .unset, .unset, .unset, .unset, .unset] []) = (mkF m 43 #[iv i0, iv i1, iv p2, iv v2, iv i4, iv i5, iv s1, iv (if (i5 &&& (4 : Int32)) = 0 then s2 else s1), .unset, .unset, .unset, .unset, .unset, .unset, .unset, .unset] []) from by rw [if_pos hc16]) kX)
    · skip
      have pre18 : ∀ t, own_s p e below s₁ m 43 #[iv i0, iv i1, iv p2, iv v2, iv i4, iv i5, iv s1, iv s1, .unset, .unset, .unset, .unset, .unset, .unset, .unset, .unset] [] t → Steps p.tables e below S0 t := by
        intro tX kX
        refine pre15 _ ?_
        show own_s p e below s₁ m 36 #[iv i0, iv i1, iv p2, iv v2, iv i4, iv i5, iv s1, iv s2, .unset, .unset, .unset, .unset, .unset, .unset, .unset, .unset] [(.int (i5 &&& (4 : Int32)))] _
        refine XS.ifNo X0.here hx rfl (hb hby at_36) rfl ((if0 _ _).trans (feq hc16).1) ?_
        show own_s p e below s₁ m 39 #[iv i0, iv i1, iv p2, iv v2, iv i4, iv i5, iv s1, iv s2, .unset, .unset, .unset, .unset, .unset, .unset, .unset, .unset] [] _
        refine XS.iload X0.here hx rfl (hb hby at_39) rfl ?_
        show own_s p e below s₁ m 41 #[iv i0, iv i1, iv p2, iv v2, iv i4, iv i5, iv s1, iv s2, .unset, .unset, .unset, .unset, .unset, .unset, .unset, .unset] [(.int s1)] _
        refine XS.istore X0.here hx rfl (hb hby at_41) rfl (l' := #[iv i0, iv i1, iv p2, iv v2, iv i4, iv i5, iv s1, iv s1, .unset, .unset, .unset, .unset, .unset, .unset, .unset, .unset]) rfl ?_
        exact kX
      exact pre18 _ (castTop (show (mkF m 43 #[iv i0, iv i1, iv p2, iv v2, iv i4, iv i5, iv s1, iv s1, .unset, .unset, .unset, .unset, .unset, .unset, .unset, .unset] []) = (mkF m 43 #[iv i0, iv i1, iv p2, iv v2, iv i4, iv i5, iv s1, iv (if (i5 &&& (4 : Int32)) = 0 then s2 else s1), .unset, .unset, .unset, .unset, .unset, .unset, .unset, .unset] []) from by rw [if_neg hc16]) kX)
  obtain ⟨s3, hs3⟩ : ∃ z : Int32, z = (if (i5 &&& (4 : Int32)) = 0 then s2 else s1) := ⟨_, rfl⟩
  rw [← hs3] at pre14
  have pre19 : ∀ t, own_s p e below s₁ m 45 #[iv i0, iv i1, iv p2, iv v2, iv i4, iv i5, iv s1, iv s3, .unset, .unset, .unset, .unset, .unset, .unset, .unset, .unset] [(.int s1)] t → Steps p.tables e below S0 t := by
    intro tX kX
    refine pre14 _ ?_
    show own_s p e below s₁ m 43 #[iv i0, iv i1, iv p2, iv v2, iv i4, iv i5, iv s1, iv s3, .unset, .unset, .unset, .unset, .unset, .unset, .unset, .unset] [] _
    refine XS.iload X0.here hx rfl (hb hby at_43) rfl ?_
    exact kX
  obtain ⟨_, _, ⟨T20, L20, k20, n20⟩, -, X20, ⟨Lc20, hQ20, l20, y20, z20⟩, st20⟩ := Jvm.LawKit.callS X0 hx (y := (⟨"com/example/farcall/farcall/service/BindingKeyEqualsPinLaw", "pick", "(I)Lcom/example/farcall/farcall/io/Transport;"⟩ : MethodName)) hown (mvT hZ (hw _ (List.mem_of_getElem? (i := 0) rfl))) (mvT hZ (hw _ (List.mem_of_getElem? (i := 1) rfl))) (mvT hZ (hw _ (List.mem_of_getElem? (i := 2) rfl))) (mvT hZ (hw _ (List.mem_of_getElem? (i := 3) rfl))) (by decide) (backOf (W := 0) (rm1 l Z a0 hw [] s1 U T h0 n0 Z0 (S_U.ext X00.2) (S_T.ext X00.2)) hZ (hw _ (List.mem_of_getElem? (i := 3) rfl)) (hw _ (List.mem_of_getElem? (i := 2) rfl)) (by decide) (by decide)) (g := (mkF m 45 #[iv i0, iv i1, iv p2, iv v2, iv i4, iv i5, iv s1, iv s3, .unset, .unset, .unset, .unset, .unset, .unset, .unset, .unset] [(.int s1)])) rfl (by rw [hml]; rfl) (argsL := [(.int s1)]) (rest := []) (lenOf pd0_0 rfl) rfl (by show 2 * 0 + _ ≤ _; exact Nat.le_of_eq rfl) (hb hby at_45) (fun _ _ => ⟨rfl, e0, (by decide : 0 + 0 ≤ _), (by decide : 0 + 0 ≤ _)⟩)
  dsimp only [Pt.U, Pt.locs, Pt.cells, Pt.slots] at X20 l20 y20 z20 st20 hQ20
  subst l20 y20 z20
  obtain ⟨⟨w20, rfl, hw20⟩, Nq20, e20⟩ := hQ20
  have N20 := Fr.app N0 Nq20
  obtain ⟨LL21, X21, N21⟩ : ∃ LL, Stand p l e room_1 s m #[(.int i0), (.int i1), (.int i2), (.int i3), (.int i4), (.int i5)] below meth c T20 LL 0 0 ∧ Fr n0 LL := ⟨_, X20, N20⟩
  have pre22 : ∀ t, own_s p e below T20 m 48 #[iv i0, iv i1, iv p2, iv v2, iv i4, iv i5, iv s1, iv s3, .unset, .unset, .unset, .unset, .unset, .unset, .unset, .unset] [w20] t → Steps p.tables e below S0 t := fun tX kX => pre19 _ (st20 _ kX)
  have pre23 : ∀ t, own_s p e below T20 m 52 #[iv i0, iv i1, iv p2, iv v2, iv i4, iv i5, iv s1, iv s3, .val w20, .unset, .unset, .unset, .unset, .unset, .unset, .unset] [(.int s3)] t → Steps p.tables e below S0 t := by
    intro tX kX
    refine pre22 _ ?_
    show own_s p e below T20 m 48 #[iv i0, iv i1, iv p2, iv v2, iv i4, iv i5, iv s1, iv s3, .unset, .unset, .unset, .unset, .unset, .unset, .unset, .unset] [w20] _
    refine XS.astore X21.here hx rfl (hb hby at_48) rfl hw20 (l' := #[iv i0, iv i1, iv p2, iv v2, iv i4, iv i5, iv s1, iv s3, .val w20, .unset, .unset, .unset, .unset, .unset, .unset, .unset]) (XS.store1 rfl (by first | exact One.u | exact One.val rfl | exact One.val (own_cat1 rfl)) (by first | rfl | exact own_cat1 hw20)) ?_
    show own_s p e below T20 m 50 #[iv i0, iv i1, iv p2, iv v2, iv i4, iv i5, iv s1, iv s3, .val w20, .unset, .unset, .unset, .unset, .unset, .unset, .unset] [] _
    refine XS.iload X21.here hx rfl (hb hby at_50) rfl ?_
    exact kX
  obtain ⟨_, _, ⟨T24, L24, k24, n24⟩, -, X24, ⟨Lc24, hQ24, l24, y24, z24⟩, st24⟩ := Jvm.LawKit.callS X21 hx (y := (⟨"com/example/farcall/farcall/service/BindingKeyEqualsPinLaw", "pick", "(I)Lcom/example/farcall/farcall/io/Transport;"⟩ : MethodName)) hown (mvT hZ (hw _ (List.mem_of_getElem? (i := 0) rfl))) (mvT hZ (hw _ (List.mem_of_getElem? (i := 1) rfl))) (mvT hZ (hw _ (List.mem_of_getElem? (i := 2) rfl))) (mvT hZ (hw _ (List.mem_of_getElem? (i := 3) rfl))) (by decide) (backOf (W := 0) (rm1 l Z a0 hw [] s3 U T h0 n0 Z0 (S_U.ext X00.2) (S_T.ext X00.2)) hZ (hw _ (List.mem_of_getElem? (i := 3) rfl)) (hw _ (List.mem_of_getElem? (i := 2) rfl)) (by decide) (by decide)) (g := (mkF m 52 #[iv i0, iv i1, iv p2, iv v2, iv i4, iv i5, iv s1, iv s3, .val w20, .unset, .unset, .unset, .unset, .unset, .unset, .unset] [(.int s3)])) rfl (by rw [hml]; rfl) (argsL := [(.int s3)]) (rest := []) (lenOf pd0_0 rfl) rfl (by show 2 * 0 + _ ≤ _; exact Nat.le_of_eq rfl) (hb hby at_52) (fun _ _ => ⟨rfl, e20, (by decide : 0 + 0 ≤ _), (by decide : 0 + 0 ≤ _)⟩)
  dsimp only [Pt.U, Pt.locs, Pt.cells, Pt.slots] at X24 l24 y24 z24 st24 hQ24
  subst l24 y24 z24
  obtain ⟨⟨w24, rfl, hw24⟩, Nq24, e24⟩ := hQ24
  have N24 := Fr.app N21 Nq24
  obtain ⟨LL25, X25, N25⟩ : ∃ LL, Stand p l e room_1 s m #[(.int i0), (.int i1), (.int i2), (.int i3), (.int i4), (.int i5)] below meth c T24 LL 0 0 ∧ Fr n0 LL := ⟨_, X24, N24⟩
  have pre26 : ∀ t, own_s p e below T24 m 55 #[iv i0, iv i1, iv p2, iv v2, iv i4, iv i5, iv s1, iv s3, .val w20, .unset, .unset, .unset, .unset, .unset, .unset, .unset] [w24] t → Steps p.tables e below S0 t := fun tX kX => pre23 _ (st24 _ kX)
  have pre27 : ∀ t, own_s p e below T24 m 57 #[iv i0, iv i1, iv p2, iv v2, iv i4, iv i5, iv s1, iv s3, .val w20, .val w24, .unset, .unset, .unset, .unset, .unset, .unset] [] t → Steps p.tables e below S0 t := by
    intro tX kX
    refine pre26 _ ?_
    show own_s p e below T24 m 55 #[iv i0, iv i1, iv p2, iv v2, iv i4, iv i5, iv s1, iv s3, .val w20, .unset, .unset, .unset, .unset, .unset, .unset, .unset] [w24] _
    refine XS.astore X25.here hx rfl (hb hby at_55) rfl hw24 (l' := #[iv i0, iv i1, iv p2, iv v2, iv i4, iv i5, iv s1, iv s3, .val w20, .val w24, .unset, .unset, .unset, .unset, .unset, .unset]) (XS.store1 rfl (by first | exact One.u | exact One.val rfl | exact One.val (own_cat1 rfl)) (by first | rfl | exact own_cat1 hw24)) ?_
    exact kX
  obtain ⟨T28, h28, X28, e28, E28, A28, D28, -, st28⟩ := newO X25 hx hZ hown (hw _ (List.mem_of_getElem? (i := 7) rfl)) (hw _ (List.mem_of_getElem? (i := 8) rfl)) (hw _ (List.mem_of_getElem? (i := 9) rfl)) e24 (g := (mkF m 57 #[iv i0, iv i1, iv p2, iv v2, iv i4, iv i5, iv s1, iv s3, .val w20, .val w24, .unset, .unset, .unset, .unset, .unset, .unset] [])) rfl (hb hby at_57) (by decide) (by decide)
  obtain ⟨b28, g28⟩ : ∃ z, z = h0.size := ⟨_, rfl⟩
  rw [← g28] at A28 D28 st28
  have g_b28 : n0 ≤ b28 := Nat.le_trans Z0 (Nat.le_of_eq g28.symm)
  have pre29 : ∀ t, own_s p e below T28 m 60 #[iv i0, iv i1, iv p2, iv v2, iv i4, iv i5, iv s1, iv s3, .val w20, .val w24, .unset, .unset, .unset, .unset, .unset, .unset] [(.ref b28)] t → Steps p.tables e below S0 t := fun tX kX => pre27 _ (st28 _ kX)
  have f30_O : Old Z n0 h28 := X00.ext E28
  have Z31 : n0 ≤ h28.size := Nat.le_trans Z0 E28.1
  have f32_E : Exa Z h28 b28 "com/example/farcall/farcall/service/BindingKey" := A28
  have f33_F : Fld Z h28 b28 "com/example/farcall/farcall/service/BindingKey" "program" "I" (.int (0 : Int32)) := D28 (Or.inr (hw _ (List.mem_of_getElem? (i := 17) rfl))) (ty := .int) (by decide)
  have f34_F : Fld Z h28 b28 "com/example/farcall/farcall/service/BindingKey" "version" "I" (.int (0 : Int32)) := D28 (Or.inr (hw _ (List.mem_of_getElem? (i := 19) rfl))) (ty := .int) (by decide)
  have f35_F : Fld Z h28 b28 "com/example/farcall/farcall/service/BindingKey" "transport" "Lcom/example/farcall/farcall/io/Transport;" .null := D28 (Or.inr (hw _ (List.mem_of_getElem? (i := 21) rfl))) (ty := (.object "com/example/farcall/farcall/io/Transport")) (by decide)
  have pre36 : ∀ t, own_s p e below T28 m 65 #[iv i0, iv i1, iv p2, iv v2, iv i4, iv i5, iv s1, iv s3, .val w20, .val w24, .unset, .unset, .unset, .unset, .unset, .unset] [w20, (.int i1), (.int i0), (.ref b28), (.ref b28)] t → Steps p.tables e below S0 t := by
    intro tX kX
    refine pre29 _ ?_
    show own_s p e below T28 m 60 #[iv i0, iv i1, iv p2, iv v2, iv i4, iv i5, iv s1, iv s3, .val w20, .val w24, .unset, .unset, .unset, .unset, .unset, .unset] [(.ref b28)] _
    refine XS.dup X28.here hx rfl (hb hby at_60) rfl rfl ?_
    show own_s p e below T28 m 61 #[iv i0, iv i1, iv p2, iv v2, iv i4, iv i5, iv s1, iv s3, .val w20, .val w24, .unset, .unset, .unset, .unset, .unset, .unset] [(.ref b28), (.ref b28)] _
    refine XS.iloadN X28.here hx rfl (hb hby at_61) rfl ?_
    show own_s p e below T28 m 62 #[iv i0, iv i1, iv p2, iv v2, iv i4, iv i5, iv s1, iv s3, .val w20, .val w24, .unset, .unset, .unset, .unset, .unset, .unset] [(.int i0), (.ref b28), (.ref b28)] _
    refine XS.iloadN X28.here hx rfl (hb hby at_62) rfl ?_
    show own_s p e below T28 m 63 #[iv i0, iv i1, iv p2, iv v2, iv i4, iv i5, iv s1, iv s3, .val w20, .val w24, .unset, .unset, .unset, .unset, .unset, .unset] [(.int i1), (.int i0), (.ref b28), (.ref b28)] _
    refine XS.aload X28.here hx rfl (hb hby at_63) rfl hw20 ?_
    exact kX
  obtain ⟨_, _, ⟨T37, L37, k37, n37⟩, -, X37, ⟨Lc37, hQ37, l37, y37, z37⟩, st37⟩ := X28.specialBack hx (y := (⟨"com/example/farcall/farcall/service/BindingKey", "<init>", "(IILcom/example/farcall/farcall/io/Transport;)V"⟩ : MethodName)) rfl hown (mvT hZ (hw _ (List.mem_of_getElem? (i := 10) rfl))) (mvT hZ (hw _ (List.mem_of_getElem? (i := 11) rfl))) (mvT hZ (hw _ (List.mem_of_getElem? (i := 12) rfl))) (by decide) (backOf (W := 1) (rm2 l Z a0 hw [] b28 i0 i1 w20  h28 n0 Z31 hw20 f32_E f33_F f34_F f35_F g_b28) hZ (hw _ (List.mem_of_getElem? (i := 12) rfl)) (hw _ (List.mem_of_getElem? (i := 9) rfl)) (by decide) (by decide)) (g := (mkF m 65 #[iv i0, iv i1, iv p2, iv v2, iv i4, iv i5, iv s1, iv s3, .val w20, .val w24, .unset, .unset, .unset, .unset, .unset, .unset] [w20, (.int i1), (.int i0), (.ref b28), (.ref b28)])) rfl (by rw [hml]; rfl) (Steps.refl _) (a := b28) (argsL := [(.int i0), (.int i1), w20]) (rest := [(.ref b28)]) (lenOf pd0_1 rfl) rfl (by show 2 * 0 + _ ≤ _; exact Nat.le_of_eq rfl) (hb hby at_65) (fun _ _ => ⟨rfl, e28, (by decide : 1 + 0 ≤ _), (by decide : 3 + 0 ≤ _)⟩)
  dsimp only [Pt.U, Pt.locs, Pt.cells, Pt.slots] at X37 l37 y37 z37 st37 hQ37
  subst l37 y37 z37
  obtain ⟨rfl, Nq37, Kq37, fE37, fP37, fV37, fT37⟩ := hQ37
  have N37 := Fr.app N25 Nq37
  have e37 : T37.heap = T37.heap := rfl
  have Z37 : n0 ≤ T37.heap.size := Nat.le_trans Z31 Kq37.1
  have f38_O : Old Z n0 T37.heap := f30_O.keep Kq37 (allS g_b28 all0)
  obtain ⟨LL39, X39, N39⟩ : ∃ LL, Stand p l e room_1 s m #[(.int i0), (.int i1), (.int i2), (.int i3), (.int i4), (.int i5)] below meth c T37 LL 1 3 ∧ Fr n0 LL := ⟨_, X37, N37⟩
  have pre40 : ∀ t, own_s p e below T37 m 68 #[iv i0, iv i1, iv p2, iv v2, iv i4, iv i5, iv s1, iv s3, .val w20, .val w24, .unset, .unset, .unset, .unset, .unset, .unset] [(.ref b28)] t → Steps p.tables e below S0 t := fun tX kX => pre36 _ (st37.trans kX)
  have pre41 : ∀ t, own_s p e below T37 m 76 #[iv i0, iv i1, iv p2, iv v2, iv i4, iv i5, iv s1, iv s3, .val w20, .val w24, rv b28, .unset, .unset, .unset, .unset, .unset] [(.int (((i5.toUInt32 >>> ((3 : Int32) &&& 31).toUInt32).toInt32) &&& (3 : Int32)))] t → Steps p.tables e below S0 t := by
    intro tX kX
    refine pre40 _ ?_
    show own_s p e below T37 m 68 #[iv i0, iv i1, iv p2, iv v2, iv i4, iv i5, iv s1, iv s3, .val w20, .val w24, .unset, .unset, .unset, .unset, .unset, .unset] [(.ref b28)] _
    refine XS.astore X39.here hx rfl (hb hby at_68) rfl rfl (l' := #[iv i0, iv i1, iv p2, iv v2, iv i4, iv i5, iv s1, iv s3, .val w20, .val w24, rv b28, .unset, .unset, .unset, .unset, .unset]) rfl ?_
    show own_s p e below T37 m 70 #[iv i0, iv i1, iv p2, iv v2, iv i4, iv i5, iv s1, iv s3, .val w20, .val w24, rv b28, .unset, .unset, .unset, .unset, .unset] [] _
    refine XS.iload X39.here hx rfl (hb hby at_70) rfl ?_
    show own_s p e below T37 m 72 #[iv i0, iv i1, iv p2, iv v2, iv i4, iv i5, iv s1, iv s3, .val w20, .val w24, rv b28, .unset, .unset, .unset, .unset, .unset] [(.int i5)] _
    refine XS.iconst X39.here hx rfl (hb hby at_72) ?_
    show own_s p e below T37 m 73 #[iv i0, iv i1, iv p2, iv v2, iv i4, iv i5, iv s1, iv s3, .val w20, .val w24, rv b28, .unset, .unset, .unset, .unset, .unset] [(.int (3 : Int32)), (.int i5)] _
    refine XS.iushr X39.here hx rfl (hb hby at_73) rfl ?_
    show own_s p e below T37 m 74 #[iv i0, iv i1, iv p2, iv v2, iv i4, iv i5, iv s1, iv s3, .val w20, .val w24, rv b28, .unset, .unset, .unset, .unset, .unset] [(.int ((i5.toUInt32 >>> ((3 : Int32) &&& 31).toUInt32).toInt32))] _
    refine XS.iconst X39.here hx rfl (hb hby at_74) ?_
    show own_s p e below T37 m 75 #[iv i0, iv i1, iv p2, iv v2, iv i4, iv i5, iv s1, iv s3, .val w20, .val w24, rv b28, .unset, .unset, .unset, .unset, .unset] [(.int (3 : Int32)), (.int ((i5.toUInt32 >>> ((3 : Int32) &&& 31).toUInt32).toInt32))] _
    refine XS.iand X39.here hx rfl (hb hby at_75) rfl ?_
    exact kX
  obtain ⟨kd, hkd⟩ : ∃ z : Int32, z = (((i5.toUInt32 >>> ((3 : Int32) &&& 31).toUInt32).toInt32) &&& (3 : Int32)) := ⟨_, rfl⟩
  rw [← hkd] at pre41
  have pre42 : ∀ t, own_s p e below T37 m 81 #[iv i0, iv i1, iv p2, iv v2, iv i4, iv i5, iv s1, iv s3, .val w20, .val w24, rv b28, iv kd, .unset, .unset, .unset, .unset] [(.int (1 : Int32)), (.int kd)] t → Steps p.tables e below S0 t := by
    intro tX kX
    refine pre41 _ ?_
    show own_s p e below T37 m 76 #[iv i0, iv i1, iv p2, iv v2, iv i4, iv i5, iv s1, iv s3, .val w20, .val w24, rv b28, .unset, .unset, .unset, .unset, .unset] [(.int kd)] _
    refine XS.istore X39.here hx rfl (hb hby at_76) rfl (l' := #[iv i0, iv i1, iv p2, iv v2, iv i4, iv i5, iv s1, iv s3, .val w20, .val w24, rv b28, iv kd, .unset, .unset, .unset, .unset]) rfl ?_
    show own_s p e below T37 m 78 #[iv i0, iv i1, iv p2, iv v2, iv i4, iv i5, iv s1, iv s3, .val w20, .val w24, rv b28, iv kd, .unset, .unset, .unset, .unset] [] _
    refine XS.iload X39.here hx rfl (hb hby at_78) rfl ?_
    show own_s p e below T37 m 80 #[iv i0, iv i1, iv p2, iv v2, iv i4, iv i5, iv s1, iv s3, .val w20, .val w24, rv b28, iv kd, .unset, .unset, .unset, .unset] [(.int kd)] _
    refine XS.iconst X39.here hx rfl (hb hby at_80) ?_
    exact kX
  by_cases hc43 : kd = (1 : Int32)
  · skip
    have pre44 : ∀ t, own_s p e below T37 m 87 #[iv i0, iv i1, iv p2, iv v2, iv i4, iv i5, iv s1, iv s3, .val w20, .val w24, rv b28, iv kd, .unset, .unset, .unset, .unset] [.null, (.ref b28)] t → Steps p.tables e below S0 t := by
      intro tX kX
      refine pre42 _ ?_
      show own_s p e below T37 m 81 #[iv i0, iv i1, iv p2, iv v2, iv i4, iv i5, iv s1, iv s3, .val w20, .val w24, rv b28, iv kd, .unset, .unset, .unset, .unset] [(.int (1 : Int32)), (.int kd)] _
      refine XS.icmpNo X39.here hx rfl (hb hby at_81) rfl (teq hc43).2 ?_
      show own_s p e below T37 m 84 #[iv i0, iv i1, iv p2, iv v2, iv i4, iv i5, iv s1, iv s3, .val w20, .val w24, rv b28, iv kd, .unset, .unset, .unset, .unset] [] _
      refine XS.aload X39.here hx rfl (hb hby at_84) rfl rfl ?_
      show own_s p e below T37 m 86 #[iv i0, iv i1, iv p2, iv v2, iv i4, iv i5, iv s1, iv s3, .val w20, .val w24, rv b28, iv kd, .unset, .unset, .unset, .unset] [(.ref b28)] _
      refine XS.aconstNull X39.here hx rfl (hb hby at_86) ?_
      exact kX
    obtain ⟨cq45, kq45, q45a, q45b, q45c⟩ := isOf hZ e37 fE37
    obtain ⟨_, _, ⟨T45, L45, k45, n45⟩, -, X45, ⟨Lc45, hQ45, l45, y45, z45⟩, st45⟩ := X39.virtualBack hx (y := (⟨"com/example/farcall/farcall/service/BindingKey", "equals", "(Ljava/lang/Object;)Z"⟩ : MethodName)) (z := (⟨"com/example/farcall/farcall/service/BindingKey", "equals", "(Ljava/lang/Object;)Z"⟩ : MethodName)) hown (mvT hZ (hw _ (List.mem_of_getElem? (i := 22) rfl))) (mvT hZ (hw _ (List.mem_of_getElem? (i := 23) rfl))) (notFace_of_selects (args := #[]) (mvT hZ (hw _ (List.mem_of_getElem? (i := 25) rfl)))) (mvT hZ (hw _ (List.mem_of_getElem? (i := 25) rfl))) (mvT hZ (hw _ (List.mem_of_getElem? (i := 24) rfl))) (by decide) (backOf (W := 0) (rm3 l Z a0 hw [] b28  T37.heap n0 Z37 ) hZ (hw _ (List.mem_of_getElem? (i := 26) rfl)) (hw _ (List.mem_of_getElem? (i := 9) rfl)) (by decide) (by decide)) q45a q45c (g := (mkF m 87 #[iv i0, iv i1, iv p2, iv v2, iv i4, iv i5, iv s1, iv s3, .val w20, .val w24, rv b28, iv kd, .unset, .unset, .unset, .unset] [.null, (.ref b28)])) rfl (by rw [hml]; rfl) (Steps.refl _) (argsL := [.null]) (rest := []) (lenOf pd0_2 rfl) rfl (by show 2 * 0 + _ ≤ _; exact Nat.le_of_eq rfl) (hb hby at_87) (fun _ _ => ⟨rfl, e37, (by decide : 1 + 0 ≤ _), (by decide : 3 + 0 ≤ _)⟩)
    dsimp only [Pt.U, Pt.locs, Pt.cells, Pt.slots] at X45 l45 y45 z45 st45 hQ45
    subst l45 y45 z45
    obtain ⟨rfl, Nq45, e45⟩ := hQ45
    have N45 := Fr.app N39 Nq45
    obtain ⟨LL46, X46, N46⟩ : ∃ LL, Stand p l e room_1 s m #[(.int i0), (.int i1), (.int i2), (.int i3), (.int i4), (.int i5)] below meth c T45 LL 1 3 ∧ Fr n0 LL := ⟨_, X45, N45⟩
    have pre47 : ∀ t, own_s p e below T45 m 90 #[iv i0, iv i1, iv p2, iv v2, iv i4, iv i5, iv s1, iv s3, .val w20, .val w24, rv b28, iv kd, .unset, .unset, .unset, .unset] [(.int (0 : Int32))] t → Steps p.tables e below S0 t := fun tX kX => pre44 _ (st45.trans kX)
    have pre48 : ∀ t, own_s p e below T45 m 98 #[iv i0, iv i1, iv p2, iv v2, iv i4, iv i5, iv s1, iv s3, .val w20, .val w24, rv b28, iv kd, .unset, .unset, .unset, .unset] [(.int (1 : Int32))] t → Steps p.tables e below S0 t := by
      intro tX kX
      refine pre47 _ ?_
      show own_s p e below T45 m 90 #[iv i0, iv i1, iv p2, iv v2, iv i4, iv i5, iv s1, iv s3, .val w20, .val w24, rv b28, iv kd, .unset, .unset, .unset, .unset] [(.int (0 : Int32))] _
      refine XS.ifNo X46.here hx rfl (hb hby at_90) rfl ((if0 _ _).trans (teq (by decide : (0 : Int32) = (0 : Int32))).2) ?_
      show own_s p e below T45 m 93 #[iv i0, iv i1, iv p2, iv v2, iv i4, iv i5, iv s1, iv s3, .val w20, .val w24, rv b28, iv kd, .unset, .unset, .unset, .unset] [] _
      refine XS.iconst X46.here hx rfl (hb hby at_93) ?_
      show own_s p e below T45 m 94 #[iv i0, iv i1, iv p2, iv v2, iv i4, iv i5, iv s1, iv s3, .val w20, .val w24, rv b28, iv kd, .unset, .unset, .unset, .unset] [(.int (1 : Int32))] _
      refine XS.goto X46.here hx rfl (pc0 := 94) (pc' := 98) rfl (hb hby at_94) (by decide) (by decide) ?_
      exact kX
    subst hS0
    obtain ⟨fs, hr, hrun, hended, hW, hsame⟩ := X46.leave (v := (some (.int (1 : Int32)))) (fun h => by rw [Bd.returns] at h; cases h)
    refine ⟨_, _, pre48 _ (retN X46 hx (t := .boolean) Bd.returns (by simp) (hb hby at_98) hr), hrun, hended, _, _, rfl, ?_, ⟨_, rfl⟩, hW, hsame.mono (by decide) (by decide)⟩
    show Q0 Z i0 i1 i2 i3 i4 i5 U T ca h0 n0 (some (.int (1 : Int32))) T45.heap _
    exact ⟨rfl, N46⟩
  · skip
    have pre49 : ∀ t, own_s p e below T37 m 102 #[iv i0, iv i1, iv p2, iv v2, iv i4, iv i5, iv s1, iv s3, .val w20, .val w24, rv b28, iv kd, .unset, .unset, .unset, .unset] [(.int (2 : Int32)), (.int kd)] t → Steps p.tables e below S0 t := by
      intro tX kX
      refine pre42 _ ?_
      show own_s p e below T37 m 81 #[iv i0, iv i1, iv p2, iv v2, iv i4, iv i5, iv s1, iv s3, .val w20, .val w24, rv b28, iv kd, .unset, .unset, .unset, .unset] [(.int (1 : Int32)), (.int kd)] _
      refine XS.icmpYes X39.here hx rfl (pc0 := 81) (pc' := 99) rfl (hb hby at_81) rfl (feq hc43).2 (by decide) (by decide) ?_
      show own_s p e below T37 m 99 #[iv i0, iv i1, iv p2, iv v2, iv i4, iv i5, iv s1, iv s3, .val w20, .val w24, rv b28, iv kd, .unset, .unset, .unset, .unset] [] _
      refine XS.iload X39.here hx rfl (hb hby at_99) rfl ?_
      show own_s p e below T37 m 101 #[iv i0, iv i1, iv p2, iv v2, iv i4, iv i5, iv s1, iv s3, .val w20, .val w24, rv b28, iv kd, .unset, .unset, .unset, .unset] [(.int kd)] _
      refine XS.iconst X39.here hx rfl (hb hby at_101) ?_
      exact kX
    by_cases hc50 : kd = (2 : Int32)
    · skip
      have pre51 : ∀ t, own_s p e below T37 m 106 #[iv i0, iv i1, iv p2, iv v2, iv i4, iv i5, iv s1, iv s3, .val w20, .val w24, rv b28, iv kd, .unset, .unset, .unset, .unset] [(.int i0)] t → Steps p.tables e below S0 t := by
        intro tX kX
        refine pre49 _ ?_
        show own_s p e below T37 m 102 #[iv i0, iv i1, iv p2, iv v2, iv i4, iv i5, iv s1, iv s3, .val w20, .val w24, rv b28, iv kd, .unset, .unset, .unset, .unset] [(.int (2 : Int32)), (.int kd)] _
        refine XS.icmpNo X39.here hx rfl (hb hby at_102) rfl (teq hc50).2 ?_
        show own_s p e below T37 m 105 #[iv i0, iv i1, iv p2, iv v2, iv i4, iv i5, iv s1, iv s3, .val w20, .val w24, rv b28, iv kd, .unset, .unset, .unset, .unset] [] _
        refine XS.iloadN X39.here hx rfl (hb hby at_105) rfl ?_
        exact kX
      obtain ⟨_, _, ⟨T52, L52, k52, n52⟩, -, X52, ⟨Lc52, hQ52, l52, y52, z52⟩, st52⟩ := Jvm.LawKit.callS X39 hx (y := (⟨"java/lang/Integer", "valueOf", "(I)Ljava/lang/Integer;"⟩ : MethodName)) hown (mvT hZ (hw _ (List.mem_of_getElem? (i := 31) rfl))) (mvT hZ (hw _ (List.mem_of_getElem? (i := 32) rfl))) (mvT hZ (hw _ (List.mem_of_getElem? (i := 33) rfl))) (mvT hZ (hw _ (List.mem_of_getElem? (i := 34) rfl))) (by decide) (backOf (W := 0) (rm8 l Z a0 hw [] i0 ca T37.heap n0 Z37 (S_h.ext f38_O.2) (S_c.ext f38_O.2) (CA.ext f38_O.2)) hZ (hw _ (List.mem_of_getElem? (i := 34) rfl)) (hw _ (List.mem_of_getElem? (i := 33) rfl)) (by decide) (by decide)) (g := (mkF m 106 #[iv i0, iv i1, iv p2, iv v2, iv i4, iv i5, iv s1, iv s3, .val w20, .val w24, rv b28, iv kd, .unset, .unset, .unset, .unset] [(.int i0)])) rfl (by rw [hml]; rfl) (argsL := [(.int i0)]) (rest := []) (lenOf pd0_3 rfl) rfl (by show 2 * 0 + _ ≤ _; exact Nat.le_of_eq rfl) (hb hby at_106) (fun _ _ => ⟨rfl, e37, (by decide : 1 + 1 ≤ _), (by decide : 3 + 1 ≤ _)⟩)
      dsimp only [Pt.U, Pt.locs, Pt.cells, Pt.slots] at X52 l52 y52 z52 st52 hQ52
      subst l52 y52 z52
      obtain ⟨r52, rfl, Nq52, Kq52, fE52⟩ := hQ52
      have N52 := Fr.app N39 Nq52
      have e52 : T52.heap = T52.heap := rfl
      have Z52 : n0 ≤ T52.heap.size := Nat.le_trans Z37 Kq52.1
      have f53_E : Exa Z T52.heap b28 "com/example/farcall/farcall/service/BindingKey" := fE37.keep Kq52
      obtain ⟨LL54, X54, N54⟩ : ∃ LL, Stand p l e room_1 s m #[(.int i0), (.int i1), (.int i2), (.int i3), (.int i4), (.int i5)] below meth c T52 LL 2 4 ∧ Fr n0 LL := ⟨_, X52, N52⟩
      have pre55 : ∀ t, own_s p e below T52 m 109 #[iv i0, iv i1, iv p2, iv v2, iv i4, iv i5, iv s1, iv s3, .val w20, .val w24, rv b28, iv kd, .unset, .unset, .unset, .unset] [(.ref r52)] t → Steps p.tables e below S0 t := fun tX kX => pre51 _ (st52 _ kX)
      have pre56 : ∀ t, own_s p e below T52 m 115 #[iv i0, iv i1, iv p2, iv v2, iv i4, iv i5, iv s1, iv s3, .val w20, .val w24, rv b28, iv kd, rv r52, .unset, .unset, .unset] [(.ref r52), (.ref b28)] t → Steps p.tables e below S0 t := by
        intro tX kX
        refine pre55 _ ?_
        show own_s p e below T52 m 109 #[iv i0, iv i1, iv p2, iv v2, iv i4, iv i5, iv s1, iv s3, .val w20, .val w24, rv b28, iv kd, .unset, .unset, .unset, .unset] [(.ref r52)] _
        refine XS.astore X54.here hx rfl (hb hby at_109) rfl rfl (l' := #[iv i0, iv i1, iv p2, iv v2, iv i4, iv i5, iv s1, iv s3, .val w20, .val w24, rv b28, iv kd, rv r52, .unset, .unset, .unset]) rfl ?_
        show own_s p e below T52 m 111 #[iv i0, iv i1, iv p2, iv v2, iv i4, iv i5, iv s1, iv s3, .val w20, .val w24, rv b28, iv kd, rv r52, .unset, .unset, .unset] [] _
        refine XS.aload X54.here hx rfl (hb hby at_111) rfl rfl ?_
        show own_s p e below T52 m 113 #[iv i0, iv i1, iv p2, iv v2, iv i4, iv i5, iv s1, iv s3, .val w20, .val w24, rv b28, iv kd, rv r52, .unset, .unset, .unset] [(.ref b28)] _
        refine XS.aload X54.here hx rfl (hb hby at_113) rfl rfl ?_
        exact kX
      obtain ⟨cq57, kq57, q57a, q57b, q57c⟩ := isOf hZ e52 f53_E
      obtain ⟨_, _, ⟨T57, L57, k57, n57⟩, -, X57, ⟨Lc57, hQ57, l57, y57, z57⟩, st57⟩ := X54.virtualBack hx (y := (⟨"com/example/farcall/farcall/service/BindingKey", "equals", "(Ljava/lang/Object;)Z"⟩ : MethodName)) (z := (⟨"com/example/farcall/farcall/service/BindingKey", "equals", "(Ljava/lang/Object;)Z"⟩ : MethodName)) hown (mvT hZ (hw _ (List.mem_of_getElem? (i := 22) rfl))) (mvT hZ (hw _ (List.mem_of_getElem? (i := 23) rfl))) (notFace_of_selects (args := #[]) (mvT hZ (hw _ (List.mem_of_getElem? (i := 25) rfl)))) (mvT hZ (hw _ (List.mem_of_getElem? (i := 25) rfl))) (mvT hZ (hw _ (List.mem_of_getElem? (i := 24) rfl))) (by decide) (backOf (W := 0) (rm5 l Z a0 hw [] b28 r52  T52.heap n0 Z52 fE52) hZ (hw _ (List.mem_of_getElem? (i := 26) rfl)) (hw _ (List.mem_of_getElem? (i := 9) rfl)) (by decide) (by decide)) q57a q57c (g := (mkF m 115 #[iv i0, iv i1, iv p2, iv v2, iv i4, iv i5, iv s1, iv s3, .val w20, .val w24, rv b28, iv kd, rv r52, .unset, .unset, .unset] [(.ref r52), (.ref b28)])) rfl (by rw [hml]; rfl) (Steps.refl _) (argsL := [(.ref r52)]) (rest := []) (lenOf pd0_2 rfl) rfl (by show 2 * 0 + _ ≤ _; exact Nat.le_of_eq rfl) (hb hby at_115) (fun _ _ => ⟨rfl, e52, (by decide : 2 + 0 ≤ _), (by decide : 4 + 0 ≤ _)⟩)
      dsimp only [Pt.U, Pt.locs, Pt.cells, Pt.slots] at X57 l57 y57 z57 st57 hQ57
      subst l57 y57 z57
      obtain ⟨rfl, Nq57, e57⟩ := hQ57
      have N57 := Fr.app N54 Nq57
      obtain ⟨LL58, X58, N58⟩ : ∃ LL, Stand p l e room_1 s m #[(.int i0), (.int i1), (.int i2), (.int i3), (.int i4), (.int i5)] below meth c T57 LL 2 4 ∧ Fr n0 LL := ⟨_, X57, N57⟩
      have pre59 : ∀ t, own_s p e below T57 m 118 #[iv i0, iv i1, iv p2, iv v2, iv i4, iv i5, iv s1, iv s3, .val w20, .val w24, rv b28, iv kd, rv r52, .unset, .unset, .unset] [(.int (0 : Int32))] t → Steps p.tables e below S0 t := fun tX kX => pre56 _ (st57.trans kX)
      have pre60 : ∀ t, own_s p e below T57 m 126 #[iv i0, iv i1, iv p2, iv v2, iv i4, iv i5, iv s1, iv s3, .val w20, .val w24, rv b28, iv kd, rv r52, .unset, .unset, .unset] [(.int (1 : Int32))] t → Steps p.tables e below S0 t := by
        intro tX kX
        refine pre59 _ ?_
        show own_s p e below T57 m 118 #[iv i0, iv i1, iv p2, iv v2, iv i4, iv i5, iv s1, iv s3, .val w20, .val w24, rv b28, iv kd, rv r52, .unset, .unset, .unset] [(.int (0 : Int32))] _
        refine XS.ifNo X58.here hx rfl (hb hby at_118) rfl ((if0 _ _).trans (teq (by decide : (0 : Int32) = (0 : Int32))).2) ?_
        show own_s p e below T57 m 121 #[iv i0, iv i1, iv p2, iv v2, iv i4, iv i5, iv s1, iv s3, .val w20, .val w24, rv b28, iv kd, rv r52, .unset, .unset, .unset] [] _
        refine XS.iconst X58.here hx rfl (hb hby at_121) ?_
        show own_s p e below T57 m 122 #[iv i0, iv i1, iv p2, iv v2, iv i4, iv i5, iv s1, iv s3, .val w20, .val w24, rv b28, iv kd, rv r52, .unset, .unset, .unset] [(.int (1 : Int32))] _
        refine XS.goto X58.here hx rfl (pc0 := 122) (pc' := 126) rfl (hb hby at_122) (by decide) (by decide) ?_
        exact kX
      subst hS0
      obtain ⟨fs, hr, hrun, hended, hW, hsame⟩ := X58.leave (v := (some (.int (1 : Int32)))) (fun h => by rw [Bd.returns] at h; cases h)
      refine ⟨_, _, pre60 _ (retN X58 hx (t := .boolean) Bd.returns (by simp) (hb hby at_126) hr), hrun, hended, _, _, rfl, ?_, ⟨_, rfl⟩, hW, hsame.mono (by decide) (by decide)⟩
      show Q0 Z i0 i1 i2 i3 i4 i5 U T ca h0 n0 (some (.int (1 : Int32))) T57.heap _
      exact ⟨rfl, N58⟩
    · skip
      have pre61 : ∀ t, own_s p e below T37 m 130 #[iv i0, iv i1, iv p2, iv v2, iv i4, iv i5, iv s1, iv s3, .val w20, .val w24, rv b28, iv kd, .unset, .unset, .unset, .unset] [(.int (3 : Int32)), (.int kd)] t → Steps p.tables e below S0 t := by
        intro tX kX
        refine pre49 _ ?_
        show own_s p e below T37 m 102 #[iv i0, iv i1, iv p2, iv v2, iv i4, iv i5, iv s1, iv s3, .val w20, .val w24, rv b28, iv kd, .unset, .unset, .unset, .unset] [(.int (2 : Int32)), (.int kd)] _
        refine XS.icmpYes X39.here hx rfl (pc0 := 102) (pc' := 127) rfl (hb hby at_102) rfl (feq hc50).2 (by decide) (by decide) ?_
        show own_s p e below T37 m 127 #[iv i0, iv i1, iv p2, iv v2, iv i4, iv i5, iv s1, iv s3, .val w20, .val w24, rv b28, iv kd, .unset, .unset, .unset, .unset] [] _
        refine XS.iload X39.here hx rfl (hb hby at_127) rfl ?_
        show own_s p e below T37 m 129 #[iv i0, iv i1, iv p2, iv v2, iv i4, iv i5, iv s1, iv s3, .val w20, .val w24, rv b28, iv kd, .unset, .unset, .unset, .unset] [(.int kd)] _
        refine XS.iconst X39.here hx rfl (hb hby at_129) ?_
        exact kX
      by_cases hc62 : kd = (3 : Int32)
      · skip
        have pre63 : ∀ t, own_s p e below T37 m 137 #[iv i0, iv i1, iv p2, iv v2, iv i4, iv i5, iv s1, iv s3, .val w20, .val w24, rv b28, iv kd, .unset, .unset, .unset, .unset] [(.ref b28), (.ref b28)] t → Steps p.tables e below S0 t := by
          intro tX kX
          refine pre61 _ ?_
          show own_s p e below T37 m 130 #[iv i0, iv i1, iv p2, iv v2, iv i4, iv i5, iv s1, iv s3, .val w20, .val w24, rv b28, iv kd, .unset, .unset, .unset, .unset] [(.int (3 : Int32)), (.int kd)] _
          refine XS.icmpNo X39.here hx rfl (hb hby at_130) rfl (teq hc62).2 ?_
          show own_s p e below T37 m 133 #[iv i0, iv i1, iv p2, iv v2, iv i4, iv i5, iv s1, iv s3, .val w20, .val w24, rv b28, iv kd, .unset, .unset, .unset, .unset] [] _
          refine XS.aload X39.here hx rfl (hb hby at_133) rfl rfl ?_
          show own_s p e below T37 m 135 #[iv i0, iv i1, iv p2, iv v2, iv i4, iv i5, iv s1, iv s3, .val w20, .val w24, rv b28, iv kd, .unset, .unset, .unset, .unset] [(.ref b28)] _
          refine XS.aload X39.here hx rfl (hb hby at_135) rfl rfl ?_
          exact kX
        obtain ⟨cq64, kq64, q64a, q64b, q64c⟩ := isOf hZ e37 fE37
        obtain ⟨_, _, ⟨T64, L64, k64, n64⟩, -, X64, ⟨Lc64, hQ64, l64, y64, z64⟩, st64⟩ := X39.virtualBack hx (y := (⟨"com/example/farcall/farcall/service/BindingKey", "equals", "(Ljava/lang/Object;)Z"⟩ : MethodName)) (z := (⟨"com/example/farcall/farcall/service/BindingKey", "equals", "(Ljava/lang/Object;)Z"⟩ : MethodName)) hown (mvT hZ (hw _ (List.mem_of_getElem? (i := 22) rfl))) (mvT hZ (hw _ (List.mem_of_getElem? (i := 23) rfl))) (notFace_of_selects (args := #[]) (mvT hZ (hw _ (List.mem_of_getElem? (i := 25) rfl)))) (mvT hZ (hw _ (List.mem_of_getElem? (i := 25) rfl))) (mvT hZ (hw _ (List.mem_of_getElem? (i := 24) rfl))) (by decide) (backOf (W := 0) (rm4 l Z a0 hw [] b28 b28 i0 i1 w20 i0 i1 w20 T37.heap n0 Z37 fE37 hw20 hw20 fP37 fV37 fT37 fP37 fV37 fT37) hZ (hw _ (List.mem_of_getElem? (i := 26) rfl)) (hw _ (List.mem_of_getElem? (i := 9) rfl)) (by decide) (by decide)) q64a q64c (g := (mkF m 137 #[iv i0, iv i1, iv p2, iv v2, iv i4, iv i5, iv s1, iv s3, .val w20, .val w24, rv b28, iv kd, .unset, .unset, .unset, .unset] [(.ref b28), (.ref b28)])) rfl (by rw [hml]; rfl) (Steps.refl _) (argsL := [(.ref b28)]) (rest := []) (lenOf pd0_2 rfl) rfl (by show 2 * 0 + _ ≤ _; exact Nat.le_of_eq rfl) (hb hby at_137) (fun _ _ => ⟨rfl, e37, (by decide : 1 + 0 ≤ _), (by decide : 3 + 0 ≤ _)⟩)
        dsimp only [Pt.U, Pt.locs, Pt.cells, Pt.slots] at X64 l64 y64 z64 st64 hQ64
        subst l64 y64 z64
        obtain ⟨rfl, Nq64, e64⟩ := hQ64
        have N64 := Fr.app N39 Nq64
        obtain ⟨LL65, X65, N65⟩ : ∃ LL, Stand p l e room_1 s m #[(.int i0), (.int i1), (.int i2), (.int i3), (.int i4), (.int i5)] below meth c T64 LL 1 3 ∧ Fr n0 LL := ⟨_, X64, N64⟩
        have pre66 : ∀ t, own_s p e below T64 m 140 #[iv i0, iv i1, iv p2, iv v2, iv i4, iv i5, iv s1, iv s3, .val w20, .val w24, rv b28, iv kd, .unset, .unset, .unset, .unset] [(.int (own_ke i0 i1 w20 i0 i1 w20))] t → Steps p.tables e below S0 t := fun tX kX => pre63 _ (st64.trans kX)
        subst hS0
        obtain ⟨fs, hr, hrun, hended, hW, hsame⟩ := X65.leave (v := (some (.int (nar .boolean (own_ke i0 i1 w20 i0 i1 w20))))) (fun h => by rw [Bd.returns] at h; cases h)
        refine ⟨_, _, pre66 _ (retN X65 hx (t := .boolean) Bd.returns (by simp) (hb hby at_140) hr), hrun, hended, _, _, rfl, ?_, ⟨_, rfl⟩, hW, hsame.mono (by decide) (by decide)⟩
        show Q0 Z i0 i1 i2 i3 i4 i5 U T ca h0 n0 (some (.int (nar .boolean (own_ke i0 i1 w20 i0 i1 w20)))) T64.heap _
        exact ⟨congrArg (fun z => some (Value.int z)) (show (nar .boolean (own_ke i0 i1 w20 i0 i1 w20)) = 1 from by rw [show (own_ke i0 i1 w20 i0 i1 w20) = 1 from if_pos ⟨rfl, rfl, rfl⟩]; rfl), N65⟩
      · skip
        have pre67 : ∀ t, own_s p e below T37 m 141 #[iv i0, iv i1, iv p2, iv v2, iv i4, iv i5, iv s1, iv s3, .val w20, .val w24, rv b28, iv kd, .unset, .unset, .unset, .unset] [] t → Steps p.tables e below S0 t := by
          intro tX kX
          refine pre61 _ ?_
          show own_s p e below T37 m 130 #[iv i0, iv i1, iv p2, iv v2, iv i4, iv i5, iv s1, iv s3, .val w20, .val w24, rv b28, iv kd, .unset, .unset, .unset, .unset] [(.int (3 : Int32)), (.int kd)] _
          refine XS.icmpYes X39.here hx rfl (pc0 := 130) (pc' := 141) rfl (hb hby at_130) rfl (feq hc62).2 (by decide) (by decide) ?_
          exact kX
        obtain ⟨T68, h68, X68, e68, E68, A68, D68, -, st68⟩ := newO X39 hx hZ hown (hw _ (List.mem_of_getElem? (i := 7) rfl)) (hw _ (List.mem_of_getElem? (i := 8) rfl)) (hw _ (List.mem_of_getElem? (i := 9) rfl)) e37 (g := (mkF m 141 #[iv i0, iv i1, iv p2, iv v2, iv i4, iv i5, iv s1, iv s3, .val w20, .val w24, rv b28, iv kd, .unset, .unset, .unset, .unset] [])) rfl (hb hby at_141) (by decide) (by decide)
        obtain ⟨b68, g68⟩ : ∃ z, z = T37.heap.size := ⟨_, rfl⟩
        rw [← g68] at A68 D68 st68
        have ne69 : b28 ≠ b68 := Nat.ne_of_lt (Nat.lt_of_lt_of_le fE37.lt (Nat.le_of_eq g68.symm))
        have g_b68 : n0 ≤ b68 := Nat.le_trans Z37 (Nat.le_of_eq g68.symm)
        have pre70 : ∀ t, own_s p e below T68 m 144 #[iv i0, iv i1, iv p2, iv v2, iv i4, iv i5, iv s1, iv s3, .val w20, .val w24, rv b28, iv kd, .unset, .unset, .unset, .unset] [(.ref b68)] t → Steps p.tables e below S0 t := fun tX kX => pre67 _ (st68 _ kX)
        have f71_O : Old Z n0 h68 := f38_O.ext E68
        have f72_E : Exa Z h68 b28 "com/example/farcall/farcall/service/BindingKey" := fE37.ext E68
        have f73_F : Fld Z h68 b28 "com/example/farcall/farcall/service/BindingKey" "program" "I" (.int i0) := fP37.ext E68
        have f74_F : Fld Z h68 b28 "com/example/farcall/farcall/service/BindingKey" "version" "I" (.int i1) := fV37.ext E68
        have f75_F : Fld Z h68 b28 "com/example/farcall/farcall/service/BindingKey" "transport" "Lcom/example/farcall/farcall/io/Transport;" w20 := fT37.ext E68
        have Z76 : n0 ≤ h68.size := Nat.le_trans Z37 E68.1
        have f77_E : Exa Z h68 b68 "com/example/farcall/farcall/service/BindingKey" := A68
        have f78_F : Fld Z h68 b68 "com/example/farcall/farcall/service/BindingKey" "program" "I" (.int (0 : Int32)) := D68 (Or.inr (hw _ (List.mem_of_getElem? (i := 17) rfl))) (ty := .int) (by decide)
        have f79_F : Fld Z h68 b68 "com/example/farcall/farcall/service/BindingKey" "version" "I" (.int (0 : Int32)) := D68 (Or.inr (hw _ (List.mem_of_getElem? (i := 19) rfl))) (ty := .int) (by decide)
        have f80_F : Fld Z h68 b68 "com/example/farcall/farcall/service/BindingKey" "transport" "Lcom/example/farcall/farcall/io/Transport;" .null := D68 (Or.inr (hw _ (List.mem_of_getElem? (i := 21) rfl))) (ty := (.object "com/example/farcall/farcall/io/Transport")) (by decide)
        have pre81 : ∀ t, own_s p e below T68 m 149 #[iv i0, iv i1, iv p2, iv v2, iv i4, iv i5, iv s1, iv s3, .val w20, .val w24, rv b28, iv kd, .unset, .unset, .unset, .unset] [w24, (.int v2), (.int p2), (.ref b68), (.ref b68)] t → Steps p.tables e below S0 t := by
          intro tX kX
          refine pre70 _ ?_
          show own_s p e below T68 m 144 #[iv i0, iv i1, iv p2, iv v2, iv i4, iv i5, iv s1, iv s3, .val w20, .val w24, rv b28, iv kd, .unset, .unset, .unset, .unset] [(.ref b68)] _
          refine XS.dup X68.here hx rfl (hb hby at_144) rfl rfl ?_
          show own_s p e below T68 m 145 #[iv i0, iv i1, iv p2, iv v2, iv i4, iv i5, iv s1, iv s3, .val w20, .val w24, rv b28, iv kd, .unset, .unset, .unset, .unset] [(.ref b68), (.ref b68)] _
          refine XS.iloadN X68.here hx rfl (hb hby at_145) rfl ?_
          show own_s p e below T68 m 146 #[iv i0, iv i1, iv p2, iv v2, iv i4, iv i5, iv s1, iv s3, .val w20, .val w24, rv b28, iv kd, .unset, .unset, .unset, .unset] [(.int p2), (.ref b68), (.ref b68)] _
          refine XS.iloadN X68.here hx rfl (hb hby at_146) rfl ?_
          show own_s p e below T68 m 147 #[iv i0, iv i1, iv p2, iv v2, iv i4, iv i5, iv s1, iv s3, .val w20, .val w24, rv b28, iv kd, .unset, .unset, .unset, .unset] [(.int v2), (.int p2), (.ref b68), (.ref b68)] _
          refine XS.aload X68.here hx rfl (hb hby at_147) rfl hw24 ?_
          exact kX
        obtain ⟨_, _, ⟨T82, L82, k82, n82⟩, -, X82, ⟨Lc82, hQ82, l82, y82, z82⟩, st82⟩ := X68.specialBack hx (y := (⟨"com/example/farcall/farcall/service/BindingKey", "<init>", "(IILcom/example/farcall/farcall/io/Transport;)V"⟩ : MethodName)) rfl hown (mvT hZ (hw _ (List.mem_of_getElem? (i := 10) rfl))) (mvT hZ (hw _ (List.mem_of_getElem? (i := 11) rfl))) (mvT hZ (hw _ (List.mem_of_getElem? (i := 12) rfl))) (by decide) (backOf (W := 1) (rm2 l Z a0 hw [] b68 p2 v2 w24  h68 n0 Z76 hw24 f77_E f78_F f79_F f80_F g_b68) hZ (hw _ (List.mem_of_getElem? (i := 12) rfl)) (hw _ (List.mem_of_getElem? (i := 9) rfl)) (by decide) (by decide)) (g := (mkF m 149 #[iv i0, iv i1, iv p2, iv v2, iv i4, iv i5, iv s1, iv s3, .val w20, .val w24, rv b28, iv kd, .unset, .unset, .unset, .unset] [w24, (.int v2), (.int p2), (.ref b68), (.ref b68)])) rfl (by rw [hml]; rfl) (Steps.refl _) (a := b68) (argsL := [(.int p2), (.int v2), w24]) (rest := [(.ref b68)]) (lenOf pd0_1 rfl) rfl (by show 2 * 0 + _ ≤ _; exact Nat.le_of_eq rfl) (hb hby at_149) (fun _ _ => ⟨rfl, e68, (by decide : 2 + 0 ≤ _), (by decide : 6 + 0 ≤ _)⟩)
        dsimp only [Pt.U, Pt.locs, Pt.cells, Pt.slots] at X82 l82 y82 z82 st82 hQ82
        subst l82 y82 z82
        obtain ⟨rfl, Nq82, Kq82, fE82, fP82, fV82, fT82⟩ := hQ82
        have N82 := Fr.app N39 Nq82
        have e82 : T82.heap = T82.heap := rfl
        have Z82 : n0 ≤ T82.heap.size := Nat.le_trans Z76 Kq82.1
        have f83_O : Old Z n0 T82.heap := f71_O.keep Kq82 (allS g_b68 all0)
        have f84_E : Exa Z T82.heap b28 "com/example/farcall/farcall/service/BindingKey" := f72_E.keep Kq82
        have f85_F : Fld Z T82.heap b28 "com/example/farcall/farcall/service/BindingKey" "program" "I" (.int i0) := f73_F.keep Kq82 (ninS ne69 nin0)
        have f86_F : Fld Z T82.heap b28 "com/example/farcall/farcall/service/BindingKey" "version" "I" (.int i1) := f74_F.keep Kq82 (ninS ne69 nin0)
        have f87_F : Fld Z T82.heap b28 "com/example/farcall/farcall/service/BindingKey" "transport" "Lcom/example/farcall/farcall/io/Transport;" w20 := f75_F.keep Kq82 (ninS ne69 nin0)
        obtain ⟨LL88, X88, N88⟩ : ∃ LL, Stand p l e room_1 s m #[(.int i0), (.int i1), (.int i2), (.int i3), (.int i4), (.int i5)] below meth c T82 LL 2 6 ∧ Fr n0 LL := ⟨_, X82, N82⟩
        have pre89 : ∀ t, own_s p e below T82 m 152 #[iv i0, iv i1, iv p2, iv v2, iv i4, iv i5, iv s1, iv s3, .val w20, .val w24, rv b28, iv kd, .unset, .unset, .unset, .unset] [(.ref b68)] t → Steps p.tables e below S0 t := fun tX kX => pre81 _ (st82.trans kX)
        have pre90 : ∀ t, own_s p e below T82 m 156 #[iv i0, iv i1, iv p2, iv v2, iv i4, iv i5, iv s1, iv s3, .val w20, .val w24, rv b28, iv kd, rv b68, .unset, .unset, .unset] [(.int p2), (.int i0)] t → Steps p.tables e below S0 t := by
          intro tX kX
          refine pre89 _ ?_
          show own_s p e below T82 m 152 #[iv i0, iv i1, iv p2, iv v2, iv i4, iv i5, iv s1, iv s3, .val w20, .val w24, rv b28, iv kd, .unset, .unset, .unset, .unset] [(.ref b68)] _
          refine XS.astore X88.here hx rfl (hb hby at_152) rfl rfl (l' := #[iv i0, iv i1, iv p2, iv v2, iv i4, iv i5, iv s1, iv s3, .val w20, .val w24, rv b28, iv kd, rv b68, .unset, .unset, .unset]) rfl ?_
          show own_s p e below T82 m 154 #[iv i0, iv i1, iv p2, iv v2, iv i4, iv i5, iv s1, iv s3, .val w20, .val w24, rv b28, iv kd, rv b68, .unset, .unset, .unset] [] _
          refine XS.iloadN X88.here hx rfl (hb hby at_154) rfl ?_
          show own_s p e below T82 m 155 #[iv i0, iv i1, iv p2, iv v2, iv i4, iv i5, iv s1, iv s3, .val w20, .val w24, rv b28, iv kd, rv b68, .unset, .unset, .unset] [(.int i0)] _
          refine XS.iloadN X88.here hx rfl (hb hby at_155) rfl ?_
          exact kX
        by_cases hc91 : i0 = p2
        · skip
          have pre92 : ∀ t, own_s p e below T82 m 161 #[iv i0, iv i1, iv p2, iv v2, iv i4, iv i5, iv s1, iv s3, .val w20, .val w24, rv b28, iv kd, rv b68, .unset, .unset, .unset] [(.int v2), (.int i1)] t → Steps p.tables e below S0 t := by
            intro tX kX
            refine pre90 _ ?_
            show own_s p e below T82 m 156 #[iv i0, iv i1, iv p2, iv v2, iv i4, iv i5, iv s1, iv s3, .val w20, .val w24, rv b28, iv kd, rv b68, .unset, .unset, .unset] [(.int p2), (.int i0)] _
            refine XS.icmpNo X88.here hx rfl (hb hby at_156) rfl (teq hc91).2 ?_
            show own_s p e below T82 m 159 #[iv i0, iv i1, iv p2, iv v2, iv i4, iv i5, iv s1, iv s3, .val w20, .val w24, rv b28, iv kd, rv b68, .unset, .unset, .unset] [] _
            refine XS.iloadN X88.here hx rfl (hb hby at_159) rfl ?_
            show own_s p e below T82 m 160 #[iv i0, iv i1, iv p2, iv v2, iv i4, iv i5, iv s1, iv s3, .val w20, .val w24, rv b28, iv kd, rv b68, .unset, .unset, .unset] [(.int i1)] _
            refine XS.iloadN X88.here hx rfl (hb hby at_160) rfl ?_
            exact kX
          by_cases hc93 : i1 = v2
          · skip
            have pre94 : ∀ t, own_s p e below T82 m 168 #[iv i0, iv i1, iv p2, iv v2, iv i4, iv i5, iv s1, iv s3, .val w20, .val w24, rv b28, iv kd, rv b68, .unset, .unset, .unset] [w24, w20] t → Steps p.tables e below S0 t := by
              intro tX kX
              refine pre92 _ ?_
              show own_s p e below T82 m 161 #[iv i0, iv i1, iv p2, iv v2, iv i4, iv i5, iv s1, iv s3, .val w20, .val w24, rv b28, iv kd, rv b68, .unset, .unset, .unset] [(.int v2), (.int i1)] _
              refine XS.icmpNo X88.here hx rfl (hb hby at_161) rfl (teq hc93).2 ?_
              show own_s p e below T82 m 164 #[iv i0, iv i1, iv p2, iv v2, iv i4, iv i5, iv s1, iv s3, .val w20, .val w24, rv b28, iv kd, rv b68, .unset, .unset, .unset] [] _
              refine XS.aload X88.here hx rfl (hb hby at_164) rfl hw20 ?_
              show own_s p e below T82 m 166 #[iv i0, iv i1, iv p2, iv v2, iv i4, iv i5, iv s1, iv s3, .val w20, .val w24, rv b28, iv kd, rv b68, .unset, .unset, .unset] [w20] _
              refine XS.aload X88.here hx rfl (hb hby at_166) rfl hw24 ?_
              exact kX
            by_cases hc95 : ((w20 : Value) = w24)
            · skip
              have pre96 : ∀ t, own_s p e below T82 m 182 #[iv i0, iv i1, iv p2, iv v2, iv i4, iv i5, iv s1, iv s3, .val w20, .val w24, rv b28, iv kd, rv b68, iv (1 : Int32), .unset, .unset] [(.ref b68), (.ref b28)] t → Steps p.tables e below S0 t := by
                intro tX kX
                refine pre94 _ ?_
                show own_s p e below T82 m 168 #[iv i0, iv i1, iv p2, iv v2, iv i4, iv i5, iv s1, iv s3, .val w20, .val w24, rv b28, iv kd, rv b68, .unset, .unset, .unset] [w24, w20] _
                refine Jvm.RoadKit.acmp (g := (mkF m 168 #[iv i0, iv i1, iv p2, iv v2, iv i4, iv i5, iv s1, iv s3, .val w20, .val w24, rv b28, iv kd, rv b68, .unset, .unset, .unset] [w24, w20])) X88 hx rfl hw20 hw24 (pc0 := 168) (pc' := 171) (same := true) rfl (hb hby at_168) rfl (decide_eq_true hc95) (by decide) (by decide) ?_
                show own_s p e below T82 m 171 #[iv i0, iv i1, iv p2, iv v2, iv i4, iv i5, iv s1, iv s3, .val w20, .val w24, rv b28, iv kd, rv b68, .unset, .unset, .unset] [] _
                refine XS.iconst X88.here hx rfl (hb hby at_171) ?_
                show own_s p e below T82 m 172 #[iv i0, iv i1, iv p2, iv v2, iv i4, iv i5, iv s1, iv s3, .val w20, .val w24, rv b28, iv kd, rv b68, .unset, .unset, .unset] [(.int (1 : Int32))] _
                refine XS.goto X88.here hx rfl (pc0 := 172) (pc' := 176) rfl (hb hby at_172) (by decide) (by decide) ?_
                show own_s p e below T82 m 176 #[iv i0, iv i1, iv p2, iv v2, iv i4, iv i5, iv s1, iv s3, .val w20, .val w24, rv b28, iv kd, rv b68, .unset, .unset, .unset] [(.int (1 : Int32))] _
                refine XS.istore X88.here hx rfl (hb hby at_176) rfl (l' := #[iv i0, iv i1, iv p2, iv v2, iv i4, iv i5, iv s1, iv s3, .val w20, .val w24, rv b28, iv kd, rv b68, iv (1 : Int32), .unset, .unset]) rfl ?_
                show own_s p e below T82 m 178 #[iv i0, iv i1, iv p2, iv v2, iv i4, iv i5, iv s1, iv s3, .val w20, .val w24, rv b28, iv kd, rv b68, iv (1 : Int32), .unset, .unset] [] _
                refine XS.aload X88.here hx rfl (hb hby at_178) rfl rfl ?_
                show own_s p e below T82 m 180 #[iv i0, iv i1, iv p2, iv v2, iv i4, iv i5, iv s1, iv s3, .val w20, .val w24, rv b28, iv kd, rv b68, iv (1 : Int32), .unset, .unset] [(.ref b28)] _
                refine XS.aload X88.here hx rfl (hb hby at_180) rfl rfl ?_
                exact kX
              obtain ⟨cq97, kq97, q97a, q97b, q97c⟩ := isOf hZ e82 f84_E
              obtain ⟨_, _, ⟨T97, L97, k97, n97⟩, -, X97, ⟨Lc97, hQ97, l97, y97, z97⟩, st97⟩ := X88.virtualBack hx (y := (⟨"com/example/farcall/farcall/service/BindingKey", "equals", "(Ljava/lang/Object;)Z"⟩ : MethodName)) (z := (⟨"com/example/farcall/farcall/service/BindingKey", "equals", "(Ljava/lang/Object;)Z"⟩ : MethodName)) hown (mvT hZ (hw _ (List.mem_of_getElem? (i := 22) rfl))) (mvT hZ (hw _ (List.mem_of_getElem? (i := 23) rfl))) (notFace_of_selects (args := #[]) (mvT hZ (hw _ (List.mem_of_getElem? (i := 25) rfl)))) (mvT hZ (hw _ (List.mem_of_getElem? (i := 25) rfl))) (mvT hZ (hw _ (List.mem_of_getElem? (i := 24) rfl))) (by decide) (backOf (W := 0) (rm4 l Z a0 hw [] b28 b68 i0 i1 w20 p2 v2 w24 T82.heap n0 Z82 fE82 hw20 hw24 f85_F f86_F f87_F fP82 fV82 fT82) hZ (hw _ (List.mem_of_getElem? (i := 26) rfl)) (hw _ (List.mem_of_getElem? (i := 9) rfl)) (by decide) (by decide)) q97a q97c (g := (mkF m 182 #[iv i0, iv i1, iv p2, iv v2, iv i4, iv i5, iv s1, iv s3, .val w20, .val w24, rv b28, iv kd, rv b68, iv (1 : Int32), .unset, .unset] [(.ref b68), (.ref b28)])) rfl (by rw [hml]; rfl) (Steps.refl _) (argsL := [(.ref b68)]) (rest := []) (lenOf pd0_2 rfl) rfl (by show 2 * 0 + _ ≤ _; exact Nat.le_of_eq rfl) (hb hby at_182) (fun _ _ => ⟨rfl, e82, (by decide : 2 + 0 ≤ _), (by decide : 6 + 0 ≤ _)⟩)
              dsimp only [Pt.U, Pt.locs, Pt.cells, Pt.slots] at X97 l97 y97 z97 st97 hQ97
              subst l97 y97 z97
              obtain ⟨rfl, Nq97, e97⟩ := hQ97
              have N97 := Fr.app N88 Nq97
              obtain ⟨LL98, X98, N98⟩ : ∃ LL, Stand p l e room_1 s m #[(.int i0), (.int i1), (.int i2), (.int i3), (.int i4), (.int i5)] below meth c T97 LL 2 6 ∧ Fr n0 LL := ⟨_, X97, N97⟩
              have pre99 : ∀ t, own_s p e below T97 m 185 #[iv i0, iv i1, iv p2, iv v2, iv i4, iv i5, iv s1, iv s3, .val w20, .val w24, rv b28, iv kd, rv b68, iv (1 : Int32), .unset, .unset] [(.int (own_ke i0 i1 w20 p2 v2 w24))] t → Steps p.tables e below S0 t := fun tX kX => pre96 _ (st97.trans kX)
              have pre100 : ∀ t, own_s p e below T97 m 191 #[iv i0, iv i1, iv p2, iv v2, iv i4, iv i5, iv s1, iv s3, .val w20, .val w24, rv b28, iv kd, rv b68, iv (1 : Int32), iv (own_ke i0 i1 w20 p2 v2 w24), .unset] [(.ref b28), (.ref b68)] t → Steps p.tables e below S0 t := by
                intro tX kX
                refine pre99 _ ?_
                show own_s p e below T97 m 185 #[iv i0, iv i1, iv p2, iv v2, iv i4, iv i5, iv s1, iv s3, .val w20, .val w24, rv b28, iv kd, rv b68, iv (1 : Int32), .unset, .unset] [(.int (own_ke i0 i1 w20 p2 v2 w24))] _
                refine XS.istore X98.here hx rfl (hb hby at_185) rfl (l' := #[iv i0, iv i1, iv p2, iv v2, iv i4, iv i5, iv s1, iv s3, .val w20, .val w24, rv b28, iv kd, rv b68, iv (1 : Int32), iv (own_ke i0 i1 w20 p2 v2 w24), .unset]) rfl ?_
                show own_s p e below T97 m 187 #[iv i0, iv i1, iv p2, iv v2, iv i4, iv i5, iv s1, iv s3, .val w20, .val w24, rv b28, iv kd, rv b68, iv (1 : Int32), iv (own_ke i0 i1 w20 p2 v2 w24), .unset] [] _
                refine XS.aload X98.here hx rfl (hb hby at_187) rfl rfl ?_
                show own_s p e below T97 m 189 #[iv i0, iv i1, iv p2, iv v2, iv i4, iv i5, iv s1, iv s3, .val w20, .val w24, rv b28, iv kd, rv b68, iv (1 : Int32), iv (own_ke i0 i1 w20 p2 v2 w24), .unset] [(.ref b68)] _
                refine XS.aload X98.here hx rfl (hb hby at_189) rfl rfl ?_
                exact kX
              obtain ⟨cq101, kq101, q101a, q101b, q101c⟩ := isOf hZ e97 fE82
              obtain ⟨_, _, ⟨T101, L101, k101, n101⟩, -, X101, ⟨Lc101, hQ101, l101, y101, z101⟩, st101⟩ := X98.virtualBack hx (y := (⟨"com/example/farcall/farcall/service/BindingKey", "equals", "(Ljava/lang/Object;)Z"⟩ : MethodName)) (z := (⟨"com/example/farcall/farcall/service/BindingKey", "equals", "(Ljava/lang/Object;)Z"⟩ : MethodName)) hown (mvT hZ (hw _ (List.mem_of_getElem? (i := 22) rfl))) (mvT hZ (hw _ (List.mem_of_getElem? (i := 23) rfl))) (notFace_of_selects (args := #[]) (mvT hZ (hw _ (List.mem_of_getElem? (i := 25) rfl)))) (mvT hZ (hw _ (List.mem_of_getElem? (i := 25) rfl))) (mvT hZ (hw _ (List.mem_of_getElem? (i := 24) rfl))) (by decide) (backOf (W := 0) (rm4 l Z a0 hw [] b68 b28 p2 v2 w24 i0 i1 w20 T82.heap n0 Z82 f84_E hw24 hw20 fP82 fV82 fT82 f85_F f86_F f87_F) hZ (hw _ (List.mem_of_getElem? (i := 26) rfl)) (hw _ (List.mem_of_getElem? (i := 9) rfl)) (by decide) (by decide)) q101a q101c (g := (mkF m 191 #[iv i0, iv i1, iv p2, iv v2, iv i4, iv i5, iv s1, iv s3, .val w20, .val w24, rv b28, iv kd, rv b68, iv (1 : Int32), iv (own_ke i0 i1 w20 p2 v2 w24), .unset] [(.ref b28), (.ref b68)])) rfl (by rw [hml]; rfl) (Steps.refl _) (argsL := [(.ref b28)]) (rest := []) (lenOf pd0_2 rfl) rfl (by show 2 * 0 + _ ≤ _; exact Nat.le_of_eq rfl) (hb hby at_191) (fun _ _ => ⟨rfl, e97, (by decide : 2 + 0 ≤ _), (by decide : 6 + 0 ≤ _)⟩)
              dsimp only [Pt.U, Pt.locs, Pt.cells, Pt.slots] at X101 l101 y101 z101 st101 hQ101
              subst l101 y101 z101
              obtain ⟨rfl, Nq101, e101⟩ := hQ101
              have N101 := Fr.app N98 Nq101
              obtain ⟨LL102, X102, N102⟩ : ∃ LL, Stand p l e room_1 s m #[(.int i0), (.int i1), (.int i2), (.int i3), (.int i4), (.int i5)] below meth c T101 LL 2 6 ∧ Fr n0 LL := ⟨_, X101, N101⟩
              have pre103 : ∀ t, own_s p e below T101 m 194 #[iv i0, iv i1, iv p2, iv v2, iv i4, iv i5, iv s1, iv s3, .val w20, .val w24, rv b28, iv kd, rv b68, iv (1 : Int32), iv (own_ke i0 i1 w20 p2 v2 w24), .unset] [(.int (own_ke p2 v2 w24 i0 i1 w20))] t → Steps p.tables e below S0 t := fun tX kX => pre100 _ (st101.trans kX)
              have pre104 : ∀ t, own_s p e below T101 m 215 #[iv i0, iv i1, iv p2, iv v2, iv i4, iv i5, iv s1, iv s3, .val w20, .val w24, rv b28, iv kd, rv b68, iv (1 : Int32), iv (own_ke i0 i1 w20 p2 v2 w24), iv (own_ke p2 v2 w24 i0 i1 w20)] [(.int (1 : Int32))] t → Steps p.tables e below S0 t := by
                intro tX kX
                refine pre103 _ ?_
                show own_s p e below T101 m 194 #[iv i0, iv i1, iv p2, iv v2, iv i4, iv i5, iv s1, iv s3, .val w20, .val w24, rv b28, iv kd, rv b68, iv (1 : Int32), iv (own_ke i0 i1 w20 p2 v2 w24), .unset] [(.int (own_ke p2 v2 w24 i0 i1 w20))] _
                refine XS.istore X102.here hx rfl (hb hby at_194) rfl (l' := #[iv i0, iv i1, iv p2, iv v2, iv i4, iv i5, iv s1, iv s3, .val w20, .val w24, rv b28, iv kd, rv b68, iv (1 : Int32), iv (own_ke i0 i1 w20 p2 v2 w24), iv (own_ke p2 v2 w24 i0 i1 w20)]) rfl ?_
                show own_s p e below T101 m 196 #[iv i0, iv i1, iv p2, iv v2, iv i4, iv i5, iv s1, iv s3, .val w20, .val w24, rv b28, iv kd, rv b68, iv (1 : Int32), iv (own_ke i0 i1 w20 p2 v2 w24), iv (own_ke p2 v2 w24 i0 i1 w20)] [] _
                refine XS.iload X102.here hx rfl (hb hby at_196) rfl ?_
                show own_s p e below T101 m 198 #[iv i0, iv i1, iv p2, iv v2, iv i4, iv i5, iv s1, iv s3, .val w20, .val w24, rv b28, iv kd, rv b68, iv (1 : Int32), iv (own_ke i0 i1 w20 p2 v2 w24), iv (own_ke p2 v2 w24 i0 i1 w20)] [(.int (own_ke i0 i1 w20 p2 v2 w24))] _
                refine XS.iload X102.here hx rfl (hb hby at_198) rfl ?_
                show own_s p e below T101 m 200 #[iv i0, iv i1, iv p2, iv v2, iv i4, iv i5, iv s1, iv s3, .val w20, .val w24, rv b28, iv kd, rv b68, iv (1 : Int32), iv (own_ke i0 i1 w20 p2 v2 w24), iv (own_ke p2 v2 w24 i0 i1 w20)] [(.int (1 : Int32)), (.int (own_ke i0 i1 w20 p2 v2 w24))] _
                refine XS.icmpNo X102.here hx rfl (hb hby at_200) rfl (teq (show (own_ke i0 i1 w20 p2 v2 w24) = (1 : Int32) from if_pos ⟨hc91, hc93, hc95⟩)).2 ?_
                show own_s p e below T101 m 203 #[iv i0, iv i1, iv p2, iv v2, iv i4, iv i5, iv s1, iv s3, .val w20, .val w24, rv b28, iv kd, rv b68, iv (1 : Int32), iv (own_ke i0 i1 w20 p2 v2 w24), iv (own_ke p2 v2 w24 i0 i1 w20)] [] _
                refine XS.iload X102.here hx rfl (hb hby at_203) rfl ?_
                show own_s p e below T101 m 205 #[iv i0, iv i1, iv p2, iv v2, iv i4, iv i5, iv s1, iv s3, .val w20, .val w24, rv b28, iv kd, rv b68, iv (1 : Int32), iv (own_ke i0 i1 w20 p2 v2 w24), iv (own_ke p2 v2 w24 i0 i1 w20)] [(.int (own_ke p2 v2 w24 i0 i1 w20))] _
                refine XS.iload X102.here hx rfl (hb hby at_205) rfl ?_
                show own_s p e below T101 m 207 #[iv i0, iv i1, iv p2, iv v2, iv i4, iv i5, iv s1, iv s3, .val w20, .val w24, rv b28, iv kd, rv b68, iv (1 : Int32), iv (own_ke i0 i1 w20 p2 v2 w24), iv (own_ke p2 v2 w24 i0 i1 w20)] [(.int (1 : Int32)), (.int (own_ke p2 v2 w24 i0 i1 w20))] _
                refine XS.icmpNo X102.here hx rfl (hb hby at_207) rfl (teq (show (own_ke p2 v2 w24 i0 i1 w20) = (1 : Int32) from if_pos ⟨hc91.symm, hc93.symm, hc95.symm⟩)).2 ?_
                show own_s p e below T101 m 210 #[iv i0, iv i1, iv p2, iv v2, iv i4, iv i5, iv s1, iv s3, .val w20, .val w24, rv b28, iv kd, rv b68, iv (1 : Int32), iv (own_ke i0 i1 w20 p2 v2 w24), iv (own_ke p2 v2 w24 i0 i1 w20)] [] _
                refine XS.iconst X102.here hx rfl (hb hby at_210) ?_
                show own_s p e below T101 m 211 #[iv i0, iv i1, iv p2, iv v2, iv i4, iv i5, iv s1, iv s3, .val w20, .val w24, rv b28, iv kd, rv b68, iv (1 : Int32), iv (own_ke i0 i1 w20 p2 v2 w24), iv (own_ke p2 v2 w24 i0 i1 w20)] [(.int (1 : Int32))] _
                refine XS.goto X102.here hx rfl (pc0 := 211) (pc' := 215) rfl (hb hby at_211) (by decide) (by decide) ?_
                exact kX
              subst hS0
              obtain ⟨fs, hr, hrun, hended, hW, hsame⟩ := X102.leave (v := (some (.int (1 : Int32)))) (fun h => by rw [Bd.returns] at h; cases h)
              refine ⟨_, _, pre104 _ (retN X102 hx (t := .boolean) Bd.returns (by simp) (hb hby at_215) hr), hrun, hended, _, _, rfl, ?_, ⟨_, rfl⟩, hW, hsame.mono (by decide) (by decide)⟩
              show Q0 Z i0 i1 i2 i3 i4 i5 U T ca h0 n0 (some (.int (1 : Int32))) T101.heap _
              exact ⟨rfl, N102⟩
            · skip
              have pre105 : ∀ t, own_s p e below T82 m 182 #[iv i0, iv i1, iv p2, iv v2, iv i4, iv i5, iv s1, iv s3, .val w20, .val w24, rv b28, iv kd, rv b68, iv (0 : Int32), .unset, .unset] [(.ref b68), (.ref b28)] t → Steps p.tables e below S0 t := by
                intro tX kX
                refine pre94 _ ?_
                show own_s p e below T82 m 168 #[iv i0, iv i1, iv p2, iv v2, iv i4, iv i5, iv s1, iv s3, .val w20, .val w24, rv b28, iv kd, rv b68, .unset, .unset, .unset] [w24, w20] _
                refine Jvm.RoadKit.acmp (g := (mkF m 168 #[iv i0, iv i1, iv p2, iv v2, iv i4, iv i5, iv s1, iv s3, .val w20, .val w24, rv b28, iv kd, rv b68, .unset, .unset, .unset] [w24, w20])) X88 hx rfl hw20 hw24 (pc0 := 168) (pc' := 175) (same := false) rfl (hb hby at_168) rfl (decide_eq_false hc95) (by decide) (by decide) ?_
                show own_s p e below T82 m 175 #[iv i0, iv i1, iv p2, iv v2, iv i4, iv i5, iv s1, iv s3, .val w20, .val w24, rv b28, iv kd, rv b68, .unset, .unset, .unset] [] _
                refine XS.iconst X88.here hx rfl (hb hby at_175) ?_
                show own_s p e below T82 m 176 #[iv i0, iv i1, iv p2, iv v2, iv i4, iv i5, iv s1, iv s3, .val w20, .val w24, rv b28, iv kd, rv b68, .unset, .unset, .unset] [(.int (0 : Int32))] _
                refine XS.istore X88.here hx rfl (hb hby at_176) rfl (l' := #[iv i0, iv i1, iv p2, iv v2, iv i4, iv i5, iv s1, iv s3, .val w20, .val w24, rv b28, iv kd, rv b68, iv (0 : Int32), .unset, .unset]) rfl ?_
                show own_s p e below T82 m 178 #[iv i0, iv i1, iv p2, iv v2, iv i4, iv i5, iv s1, iv s3, .val w20, .val w24, rv b28, iv kd, rv b68, iv (0 : Int32), .unset, .unset] [] _
                refine XS.aload X88.here hx rfl (hb hby at_178) rfl rfl ?_
                show own_s p e below T82 m 180 #[iv i0, iv i1, iv p2, iv v2, iv i4, iv i5, iv s1, iv s3, .val w20, .val w24, rv b28, iv kd, rv b68, iv (0 : Int32), .unset, .unset] [(.ref b28)] _
                refine XS.aload X88.here hx rfl (hb hby at_180) rfl rfl ?_
                exact kX
              obtain ⟨cq106, kq106, q106a, q106b, q106c⟩ := isOf hZ e82 f84_E
              obtain ⟨_, _, ⟨T106, L106, k106, n106⟩, -, X106, ⟨Lc106, hQ106, l106, y106, z106⟩, st106⟩ := X88.virtualBack hx (y := (⟨"com/example/farcall/farcall/service/BindingKey", "equals", "(Ljava/lang/Object;)Z"⟩ : MethodName)) (z := (⟨"com/example/farcall/farcall/service/BindingKey", "equals", "(Ljava/lang/Object;)Z"⟩ : MethodName)) hown (mvT hZ (hw _ (List.mem_of_getElem? (i := 22) rfl))) (mvT hZ (hw _ (List.mem_of_getElem? (i := 23) rfl))) (notFace_of_selects (args := #[]) (mvT hZ (hw _ (List.mem_of_getElem? (i := 25) rfl)))) (mvT hZ (hw _ (List.mem_of_getElem? (i := 25) rfl))) (mvT hZ (hw _ (List.mem_of_getElem? (i := 24) rfl))) (by decide) (backOf (W := 0) (rm4 l Z a0 hw [] b28 b68 i0 i1 w20 p2 v2 w24 T82.heap n0 Z82 fE82 hw20 hw24 f85_F f86_F f87_F fP82 fV82 fT82) hZ (hw _ (List.mem_of_getElem? (i := 26) rfl)) (hw _ (List.mem_of_getElem? (i := 9) rfl)) (by decide) (by decide)) q106a q106c (g := (mkF m 182 #[iv i0, iv i1, iv p2, iv v2, iv i4, iv i5, iv s1, iv s3, .val w20, .val w24, rv b28, iv kd, rv b68, iv (0 : Int32), .unset, .unset] [(.ref b68), (.ref b28)])) rfl (by rw [hml]; rfl) (Steps.refl _) (argsL := [(.ref b68)]) (rest := []) (lenOf pd0_2 rfl) rfl (by show 2 * 0 + _ ≤ _; exact Nat.le_of_eq rfl) (hb hby at_182) (fun _ _ => ⟨rfl, e82, (by decide : 2 + 0 ≤ _), (by decide : 6 + 0 ≤ _)⟩)
              dsimp only [Pt.U, Pt.locs, Pt.cells, Pt.slots] at X106 l106 y106 z106 st106 hQ106
              subst l106 y106 z106
              obtain ⟨rfl, Nq106, e106⟩ := hQ106
              have N106 := Fr.app N88 Nq106
              obtain ⟨LL107, X107, N107⟩ : ∃ LL, Stand p l e room_1 s m #[(.int i0), (.int i1), (.int i2), (.int i3), (.int i4), (.int i5)] below meth c T106 LL 2 6 ∧ Fr n0 LL := ⟨_, X106, N106⟩
              have pre108 : ∀ t, own_s p e below T106 m 185 #[iv i0, iv i1, iv p2, iv v2, iv i4, iv i5, iv s1, iv s3, .val w20, .val w24, rv b28, iv kd, rv b68, iv (0 : Int32), .unset, .unset] [(.int (own_ke i0 i1 w20 p2 v2 w24))] t → Steps p.tables e below S0 t := fun tX kX => pre105 _ (st106.trans kX)
              have pre109 : ∀ t, own_s p e below T106 m 191 #[iv i0, iv i1, iv p2, iv v2, iv i4, iv i5, iv s1, iv s3, .val w20, .val w24, rv b28, iv kd, rv b68, iv (0 : Int32), iv (own_ke i0 i1 w20 p2 v2 w24), .unset] [(.ref b28), (.ref b68)] t → Steps p.tables e below S0 t := by
                intro tX kX
                refine pre108 _ ?_
                show own_s p e below T106 m 185 #[iv i0, iv i1, iv p2, iv v2, iv i4, iv i5, iv s1, iv s3, .val w20, .val w24, rv b28, iv kd, rv b68, iv (0 : Int32), .unset, .unset] [(.int (own_ke i0 i1 w20 p2 v2 w24))] _
                refine XS.istore X107.here hx rfl (hb hby at_185) rfl (l' := #[iv i0, iv i1, iv p2, iv v2, iv i4, iv i5, iv s1, iv s3, .val w20, .val w24, rv b28, iv kd, rv b68, iv (0 : Int32), iv (own_ke i0 i1 w20 p2 v2 w24), .unset]) rfl ?_
                show own_s p e below T106 m 187 #[iv i0, iv i1, iv p2, iv v2, iv i4, iv i5, iv s1, iv s3, .val w20, .val w24, rv b28, iv kd, rv b68, iv (0 : Int32), iv (own_ke i0 i1 w20 p2 v2 w24), .unset] [] _
                refine XS.aload X107.here hx rfl (hb hby at_187) rfl rfl ?_
                show own_s p e below T106 m 189 #[iv i0, iv i1, iv p2, iv v2, iv i4, iv i5, iv s1, iv s3, .val w20, .val w24, rv b28, iv kd, rv b68, iv (0 : Int32), iv (own_ke i0 i1 w20 p2 v2 w24), .unset] [(.ref b68)] _
                refine XS.aload X107.here hx rfl (hb hby at_189) rfl rfl ?_
                exact kX
              obtain ⟨cq110, kq110, q110a, q110b, q110c⟩ := isOf hZ e106 fE82
              obtain ⟨_, _, ⟨T110, L110, k110, n110⟩, -, X110, ⟨Lc110, hQ110, l110, y110, z110⟩, st110⟩ := X107.virtualBack hx (y := (⟨"com/example/farcall/farcall/service/BindingKey", "equals", "(Ljava/lang/Object;)Z"⟩ : MethodName)) (z := (⟨"com/example/farcall/farcall/service/BindingKey", "equals", "(Ljava/lang/Object;)Z"⟩ : MethodName)) hown (mvT hZ (hw _ (List.mem_of_getElem? (i := 22) rfl))) (mvT hZ (hw _ (List.mem_of_getElem? (i := 23) rfl))) (notFace_of_selects (args := #[]) (mvT hZ (hw _ (List.mem_of_getElem? (i := 25) rfl)))) (mvT hZ (hw _ (List.mem_of_getElem? (i := 25) rfl))) (mvT hZ (hw _ (List.mem_of_getElem? (i := 24) rfl))) (by decide) (backOf (W := 0) (rm4 l Z a0 hw [] b68 b28 p2 v2 w24 i0 i1 w20 T82.heap n0 Z82 f84_E hw24 hw20 fP82 fV82 fT82 f85_F f86_F f87_F) hZ (hw _ (List.mem_of_getElem? (i := 26) rfl)) (hw _ (List.mem_of_getElem? (i := 9) rfl)) (by decide) (by decide)) q110a q110c (g := (mkF m 191 #[iv i0, iv i1, iv p2, iv v2, iv i4, iv i5, iv s1, iv s3, .val w20, .val w24, rv b28, iv kd, rv b68, iv (0 : Int32), iv (own_ke i0 i1 w20 p2 v2 w24), .unset] [(.ref b28), (.ref b68)])) rfl (by rw [hml]; rfl) (Steps.refl _) (argsL := [(.ref b28)]) (rest := []) (lenOf pd0_2 rfl) rfl (by show 2 * 0 + _ ≤ _; exact Nat.le_of_eq rfl) (hb hby at_191) (fun _ _ => ⟨rfl, e106, (by decide : 2 + 0 ≤ _), (by decide : 6 + 0 ≤ _)⟩)
              dsimp only [Pt.U, Pt.locs, Pt.cells, Pt.slots] at X110 l110 y110 z110 st110 hQ110
              subst l110 y110 z110
              obtain ⟨rfl, Nq110, e110⟩ := hQ110
              have N110 := Fr.app N107 Nq110
              obtain ⟨LL111, X111, N111⟩ : ∃ LL, Stand p l e room_1 s m #[(.int i0), (.int i1), (.int i2), (.int i3), (.int i4), (.int i5)] below meth c T110 LL 2 6 ∧ Fr n0 LL := ⟨_, X110, N110⟩
              have pre112 : ∀ t, own_s p e below T110 m 194 #[iv i0, iv i1, iv p2, iv v2, iv i4, iv i5, iv s1, iv s3, .val w20, .val w24, rv b28, iv kd, rv b68, iv (0 : Int32), iv (own_ke i0 i1 w20 p2 v2 w24), .unset] [(.int (own_ke p2 v2 w24 i0 i1 w20))] t → Steps p.tables e below S0 t := fun tX kX => pre109 _ (st110.trans kX)
              have pre113 : ∀ t, own_s p e below T110 m 215 #[iv i0, iv i1, iv p2, iv v2, iv i4, iv i5, iv s1, iv s3, .val w20, .val w24, rv b28, iv kd, rv b68, iv (0 : Int32), iv (own_ke i0 i1 w20 p2 v2 w24), iv (own_ke p2 v2 w24 i0 i1 w20)] [(.int (1 : Int32))] t → Steps p.tables e below S0 t := by
                intro tX kX
                refine pre112 _ ?_
                show own_s p e below T110 m 194 #[iv i0, iv i1, iv p2, iv v2, iv i4, iv i5, iv s1, iv s3, .val w20, .val w24, rv b28, iv kd, rv b68, iv (0 : Int32), iv (own_ke i0 i1 w20 p2 v2 w24), .unset] [(.int (own_ke p2 v2 w24 i0 i1 w20))] _
                refine XS.istore X111.here hx rfl (hb hby at_194) rfl (l' := #[iv i0, iv i1, iv p2, iv v2, iv i4, iv i5, iv s1, iv s3, .val w20, .val w24, rv b28, iv kd, rv b68, iv (0 : Int32), iv (own_ke i0 i1 w20 p2 v2 w24), iv (own_ke p2 v2 w24 i0 i1 w20)]) rfl ?_
                show own_s p e below T110 m 196 #[iv i0, iv i1, iv p2, iv v2, iv i4, iv i5, iv s1, iv s3, .val w20, .val w24, rv b28, iv kd, rv b68, iv (0 : Int32), iv (own_ke i0 i1 w20 p2 v2 w24), iv (own_ke p2 v2 w24 i0 i1 w20)] [] _
                refine XS.iload X111.here hx rfl (hb hby at_196) rfl ?_
                show own_s p e below T110 m 198 #[iv i0, iv i1, iv p2, iv v2, iv i4, iv i5, iv s1, iv s3, .val w20, .val w24, rv b28, iv kd, rv b68, iv (0 : Int32), iv (own_ke i0 i1 w20 p2 v2 w24), iv (own_ke p2 v2 w24 i0 i1 w20)] [(.int (own_ke i0 i1 w20 p2 v2 w24))] _
                refine XS.iload X111.here hx rfl (hb hby at_198) rfl ?_
                show own_s p e below T110 m 200 #[iv i0, iv i1, iv p2, iv v2, iv i4, iv i5, iv s1, iv s3, .val w20, .val w24, rv b28, iv kd, rv b68, iv (0 : Int32), iv (own_ke i0 i1 w20 p2 v2 w24), iv (own_ke p2 v2 w24 i0 i1 w20)] [(.int (0 : Int32)), (.int (own_ke i0 i1 w20 p2 v2 w24))] _
                refine XS.icmpNo X111.here hx rfl (hb hby at_200) rfl (teq (show (own_ke i0 i1 w20 p2 v2 w24) = (0 : Int32) from if_neg (fun q => hc95 q.2.2))).2 ?_
                show own_s p e below T110 m 203 #[iv i0, iv i1, iv p2, iv v2, iv i4, iv i5, iv s1, iv s3, .val w20, .val w24, rv b28, iv kd, rv b68, iv (0 : Int32), iv (own_ke i0 i1 w20 p2 v2 w24), iv (own_ke p2 v2 w24 i0 i1 w20)] [] _
                refine XS.iload X111.here hx rfl (hb hby at_203) rfl ?_
                show own_s p e below T110 m 205 #[iv i0, iv i1, iv p2, iv v2, iv i4, iv i5, iv s1, iv s3, .val w20, .val w24, rv b28, iv kd, rv b68, iv (0 : Int32), iv (own_ke i0 i1 w20 p2 v2 w24), iv (own_ke p2 v2 w24 i0 i1 w20)] [(.int (own_ke p2 v2 w24 i0 i1 w20))] _
                refine XS.iload X111.here hx rfl (hb hby at_205) rfl ?_
                show own_s p e below T110 m 207 #[iv i0, iv i1, iv p2, iv v2, iv i4, iv i5, iv s1, iv s3, .val w20, .val w24, rv b28, iv kd, rv b68, iv (0 : Int32), iv (own_ke i0 i1 w20 p2 v2 w24), iv (own_ke p2 v2 w24 i0 i1 w20)] [(.int (0 : Int32)), (.int (own_ke p2 v2 w24 i0 i1 w20))] _
                refine XS.icmpNo X111.here hx rfl (hb hby at_207) rfl (teq (show (own_ke p2 v2 w24 i0 i1 w20) = (0 : Int32) from if_neg (fun q => hc95 q.2.2.symm))).2 ?_
                show own_s p e below T110 m 210 #[iv i0, iv i1, iv p2, iv v2, iv i4, iv i5, iv s1, iv s3, .val w20, .val w24, rv b28, iv kd, rv b68, iv (0 : Int32), iv (own_ke i0 i1 w20 p2 v2 w24), iv (own_ke p2 v2 w24 i0 i1 w20)] [] _
                refine XS.iconst X111.here hx rfl (hb hby at_210) ?_
                show own_s p e below T110 m 211 #[iv i0, iv i1, iv p2, iv v2, iv i4, iv i5, iv s1, iv s3, .val w20, .val w24, rv b28, iv kd, rv b68, iv (0 : Int32), iv (own_ke i0 i1 w20 p2 v2 w24), iv (own_ke p2 v2 w24 i0 i1 w20)] [(.int (1 : Int32))] _
                refine XS.goto X111.here hx rfl (pc0 := 211) (pc' := 215) rfl (hb hby at_211) (by decide) (by decide) ?_
                exact kX
              subst hS0
              obtain ⟨fs, hr, hrun, hended, hW, hsame⟩ := X111.leave (v := (some (.int (1 : Int32)))) (fun h => by rw [Bd.returns] at h; cases h)
              refine ⟨_, _, pre113 _ (retN X111 hx (t := .boolean) Bd.returns (by simp) (hb hby at_215) hr), hrun, hended, _, _, rfl, ?_, ⟨_, rfl⟩, hW, hsame.mono (by decide) (by decide)⟩
              show Q0 Z i0 i1 i2 i3 i4 i5 U T ca h0 n0 (some (.int (1 : Int32))) T110.heap _
              exact ⟨rfl, N111⟩
          · skip
            have pre114 : ∀ t, own_s p e below T82 m 182 #[iv i0, iv i1, iv p2, iv v2, iv i4, iv i5, iv s1, iv s3, .val w20, .val w24, rv b28, iv kd, rv b68, iv (0 : Int32), .unset, .unset] [(.ref b68), (.ref b28)] t → Steps p.tables e below S0 t := by
              intro tX kX
              refine pre92 _ ?_
              show own_s p e below T82 m 161 #[iv i0, iv i1, iv p2, iv v2, iv i4, iv i5, iv s1, iv s3, .val w20, .val w24, rv b28, iv kd, rv b68, .unset, .unset, .unset] [(.int v2), (.int i1)] _
              refine XS.icmpYes X88.here hx rfl (pc0 := 161) (pc' := 175) rfl (hb hby at_161) rfl (feq hc93).2 (by decide) (by decide) ?_
              show own_s p e below T82 m 175 #[iv i0, iv i1, iv p2, iv v2, iv i4, iv i5, iv s1, iv s3, .val w20, .val w24, rv b28, iv kd, rv b68, .unset, .unset, .unset] [] _
              refine XS.iconst X88.here hx rfl (hb hby at_175) ?_
              show own_s p e below T82 m 176 #[iv i0, iv i1, iv p2, iv v2, iv i4, iv i5, iv s1, iv s3, .val w20, .val w24, rv b28, iv kd, rv b68, .unset, .unset, .unset] [(.int (0 : Int32))] _
              refine XS.istore X88.here hx rfl (hb hby at_176) rfl (l' := #[iv i0, iv i1, iv p2, iv v2, iv i4, iv i5, iv s1, iv s3, .val w20, .val w24, rv b28, iv kd, rv b68, iv (0 : Int32), .unset, .unset]) rfl ?_
              show own_s p e below T82 m 178 #[iv i0, iv i1, iv p2, iv v2, iv i4, iv i5, iv s1, iv s3, .val w20, .val w24, rv b28, iv kd, rv b68, iv (0 : Int32), .unset, .unset] [] _
              refine XS.aload X88.here hx rfl (hb hby at_178) rfl rfl ?_
              show own_s p e below T82 m 180 #[iv i0, iv i1, iv p2, iv v2, iv i4, iv i5, iv s1, iv s3, .val w20, .val w24, rv b28, iv kd, rv b68, iv (0 : Int32), .unset, .unset] [(.ref b28)] _
              refine XS.aload X88.here hx rfl (hb hby at_180) rfl rfl ?_
              exact kX
            obtain ⟨cq115, kq115, q115a, q115b, q115c⟩ := isOf hZ e82 f84_E
            obtain ⟨_, _, ⟨T115, L115, k115, n115⟩, -, X115, ⟨Lc115, hQ115, l115, y115, z115⟩, st115⟩ := X88.virtualBack hx (y := (⟨"com/example/farcall/farcall/service/BindingKey", "equals", "(Ljava/lang/Object;)Z"⟩ : MethodName)) (z := (⟨"com/example/farcall/farcall/service/BindingKey", "equals", "(Ljava/lang/Object;)Z"⟩ : MethodName)) hown (mvT hZ (hw _ (List.mem_of_getElem? (i := 22) rfl))) (mvT hZ (hw _ (List.mem_of_getElem? (i := 23) rfl))) (notFace_of_selects (args := #[]) (mvT hZ (hw _ (List.mem_of_getElem? (i := 25) rfl)))) (mvT hZ (hw _ (List.mem_of_getElem? (i := 25) rfl))) (mvT hZ (hw _ (List.mem_of_getElem? (i := 24) rfl))) (by decide) (backOf (W := 0) (rm4 l Z a0 hw [] b28 b68 i0 i1 w20 p2 v2 w24 T82.heap n0 Z82 fE82 hw20 hw24 f85_F f86_F f87_F fP82 fV82 fT82) hZ (hw _ (List.mem_of_getElem? (i := 26) rfl)) (hw _ (List.mem_of_getElem? (i := 9) rfl)) (by decide) (by decide)) q115a q115c (g := (mkF m 182 #[iv i0, iv i1, iv p2, iv v2, iv i4, iv i5, iv s1, iv s3, .val w20, .val w24, rv b28, iv kd, rv b68, iv (0 : Int32), .unset, .unset] [(.ref b68), (.ref b28)])) rfl (by rw [hml]; rfl) (Steps.refl _) (argsL := [(.ref b68)]) (rest := []) (lenOf pd0_2 rfl) rfl (by show 2 * 0 + _ ≤ _; exact Nat.le_of_eq rfl) (hb hby at_182) (fun _ _ => ⟨rfl, e82, (by decide : 2 + 0 ≤ _), (by decide : 6 + 0 ≤ _)⟩)
            dsimp only [Pt.U, Pt.locs, Pt.cells, Pt.slots] at X115 l115 y115 z115 st115 hQ115
            subst l115 y115 z115
            obtain ⟨rfl, Nq115, e115⟩ := hQ115
            have N115 := Fr.app N88 Nq115
            obtain ⟨LL116, X116, N116⟩ : ∃ LL, Stand p l e room_1 s m #[(.int i0), (.int i1), (.int i2), (.int i3), (.int i4), (.int i5)] below meth c T115 LL 2 6 ∧ Fr n0 LL := ⟨_, X115, N115⟩
            have pre117 : ∀ t, own_s p e below T115 m 185 #[iv i0, iv i1, iv p2, iv v2, iv i4, iv i5, iv s1, iv s3, .val w20, .val w24, rv b28, iv kd, rv b68, iv (0 : Int32), .unset, .unset] [(.int (own_ke i0 i1 w20 p2 v2 w24))] t → Steps p.tables e below S0 t := fun tX kX => pre114 _ (st115.trans kX)
            have pre118 : ∀ t, own_s p e below T115 m 191 #[iv i0, iv i1, iv p2, iv v2, iv i4, iv i5, iv s1, iv s3, .val w20, .val w24, rv b28, iv kd, rv b68, iv (0 : Int32), iv (own_ke i0 i1 w20 p2 v2 w24), .unset] [(.ref b28), (.ref b68)] t → Steps p.tables e below S0 t := by
              intro tX kX
              refine pre117 _ ?_
              show own_s p e below T115 m 185 #[iv i0, iv i1, iv p2, iv v2, iv i4, iv i5, iv s1, iv s3, .val w20, .val w24, rv b28, iv kd, rv b68, iv (0 : Int32), .unset, .unset] [(.int (own_ke i0 i1 w20 p2 v2 w24))] _
              refine XS.istore X116.here hx rfl (hb hby at_185) rfl (l' := #[iv i0, iv i1, iv p2, iv v2, iv i4, iv i5, iv s1, iv s3, .val w20, .val w24, rv b28, iv kd, rv b68, iv (0 : Int32), iv (own_ke i0 i1 w20 p2 v2 w24), .unset]) rfl ?_
              show own_s p e below T115 m 187 #[iv i0, iv i1, iv p2, iv v2, iv i4, iv i5, iv s1, iv s3, .val w20, .val w24, rv b28, iv kd, rv b68, iv (0 : Int32), iv (own_ke i0 i1 w20 p2 v2 w24), .unset] [] _
              refine XS.aload X116.here hx rfl (hb hby at_187) rfl rfl ?_
              show own_s p e below T115 m 189 #[iv i0, iv i1, iv p2, iv v2, iv i4, iv i5, iv s1, iv s3, .val w20, .val w24, rv b28, iv kd, rv b68, iv (0 : Int32), iv (own_ke i0 i1 w20 p2 v2 w24), .unset] [(.ref b68)] _
              refine XS.aload X116.here hx rfl (hb hby at_189) rfl rfl ?_
              exact kX
            obtain ⟨cq119, kq119, q119a, q119b, q119c⟩ := isOf hZ e115 fE82
            obtain ⟨_, _, ⟨T119, L119, k119, n119⟩, -, X119, ⟨Lc119, hQ119, l119, y119, z119⟩, st119⟩ := X116.virtualBack hx (y := (⟨"com/example/farcall/farcall/service/BindingKey", "equals", "(Ljava/lang/Object;)Z"⟩ : MethodName)) (z := (⟨"com/example/farcall/farcall/service/BindingKey", "equals", "(Ljava/lang/Object;)Z"⟩ : MethodName)) hown (mvT hZ (hw _ (List.mem_of_getElem? (i := 22) rfl))) (mvT hZ (hw _ (List.mem_of_getElem? (i := 23) rfl))) (notFace_of_selects (args := #[]) (mvT hZ (hw _ (List.mem_of_getElem? (i := 25) rfl)))) (mvT hZ (hw _ (List.mem_of_getElem? (i := 25) rfl))) (mvT hZ (hw _ (List.mem_of_getElem? (i := 24) rfl))) (by decide) (backOf (W := 0) (rm4 l Z a0 hw [] b68 b28 p2 v2 w24 i0 i1 w20 T82.heap n0 Z82 f84_E hw24 hw20 fP82 fV82 fT82 f85_F f86_F f87_F) hZ (hw _ (List.mem_of_getElem? (i := 26) rfl)) (hw _ (List.mem_of_getElem? (i := 9) rfl)) (by decide) (by decide)) q119a q119c (g := (mkF m 191 #[iv i0, iv i1, iv p2, iv v2, iv i4, iv i5, iv s1, iv s3, .val w20, .val w24, rv b28, iv kd, rv b68, iv (0 : Int32), iv (own_ke i0 i1 w20 p2 v2 w24), .unset] [(.ref b28), (.ref b68)])) rfl (by rw [hml]; rfl) (Steps.refl _) (argsL := [(.ref b28)]) (rest := []) (lenOf pd0_2 rfl) rfl (by show 2 * 0 + _ ≤ _; exact Nat.le_of_eq rfl) (hb hby at_191) (fun _ _ => ⟨rfl, e115, (by decide : 2 + 0 ≤ _), (by decide : 6 + 0 ≤ _)⟩)
            dsimp only [Pt.U, Pt.locs, Pt.cells, Pt.slots] at X119 l119 y119 z119 st119 hQ119
            subst l119 y119 z119
            obtain ⟨rfl, Nq119, e119⟩ := hQ119
            have N119 := Fr.app N116 Nq119
            obtain ⟨LL120, X120, N120⟩ : ∃ LL, Stand p l e room_1 s m #[(.int i0), (.int i1), (.int i2), (.int i3), (.int i4), (.int i5)] below meth c T119 LL 2 6 ∧ Fr n0 LL := ⟨_, X119, N119⟩
            have pre121 : ∀ t, own_s p e below T119 m 194 #[iv i0, iv i1, iv p2, iv v2, iv i4, iv i5, iv s1, iv s3, .val w20, .val w24, rv b28, iv kd, rv b68, iv (0 : Int32), iv (own_ke i0 i1 w20 p2 v2 w24), .unset] [(.int (own_ke p2 v2 w24 i0 i1 w20))] t → Steps p.tables e below S0 t := fun tX kX => pre118 _ (st119.trans kX)
            have pre122 : ∀ t, own_s p e below T119 m 215 #[iv i0, iv i1, iv p2, iv v2, iv i4, iv i5, iv s1, iv s3, .val w20, .val w24, rv b28, iv kd, rv b68, iv (0 : Int32), iv (own_ke i0 i1 w20 p2 v2 w24), iv (own_ke p2 v2 w24 i0 i1 w20)] [(.int (1 : Int32))] t → Steps p.tables e below S0 t := by
              intro tX kX
              refine pre121 _ ?_
              show own_s p e below T119 m 194 #[iv i0, iv i1, iv p2, iv v2, iv i4, iv i5, iv s1, iv s3, .val w20, .val w24, rv b28, iv kd, rv b68, iv (0 : Int32), iv (own_ke i0 i1 w20 p2 v2 w24), .unset] [(.int (own_ke p2 v2 w24 i0 i1 w20))] _
              refine XS.istore X120.here hx rfl (hb hby at_194) rfl (l' := #[iv i0, iv i1, iv p2, iv v2, iv i4, iv i5, iv s1, iv s3, .val w20, .val w24, rv b28, iv kd, rv b68, iv (0 : Int32), iv (own_ke i0 i1 w20 p2 v2 w24), iv (own_ke p2 v2 w24 i0 i1 w20)]) rfl ?_
              show own_s p e below T119 m 196 #[iv i0, iv i1, iv p2, iv v2, iv i4, iv i5, iv s1, iv s3, .val w20, .val w24, rv b28, iv kd, rv b68, iv (0 : Int32), iv (own_ke i0 i1 w20 p2 v2 w24), iv (own_ke p2 v2 w24 i0 i1 w20)] [] _
              refine XS.iload X120.here hx rfl (hb hby at_196) rfl ?_
              show own_s p e below T119 m 198 #[iv i0, iv i1, iv p2, iv v2, iv i4, iv i5, iv s1, iv s3, .val w20, .val w24, rv b28, iv kd, rv b68, iv (0 : Int32), iv (own_ke i0 i1 w20 p2 v2 w24), iv (own_ke p2 v2 w24 i0 i1 w20)] [(.int (own_ke i0 i1 w20 p2 v2 w24))] _
              refine XS.iload X120.here hx rfl (hb hby at_198) rfl ?_
              show own_s p e below T119 m 200 #[iv i0, iv i1, iv p2, iv v2, iv i4, iv i5, iv s1, iv s3, .val w20, .val w24, rv b28, iv kd, rv b68, iv (0 : Int32), iv (own_ke i0 i1 w20 p2 v2 w24), iv (own_ke p2 v2 w24 i0 i1 w20)] [(.int (0 : Int32)), (.int (own_ke i0 i1 w20 p2 v2 w24))] _
              refine XS.icmpNo X120.here hx rfl (hb hby at_200) rfl (teq (show (own_ke i0 i1 w20 p2 v2 w24) = (0 : Int32) from if_neg (fun q => hc93 q.2.1))).2 ?_
              show own_s p e below T119 m 203 #[iv i0, iv i1, iv p2, iv v2, iv i4, iv i5, iv s1, iv s3, .val w20, .val w24, rv b28, iv kd, rv b68, iv (0 : Int32), iv (own_ke i0 i1 w20 p2 v2 w24), iv (own_ke p2 v2 w24 i0 i1 w20)] [] _
              refine XS.iload X120.here hx rfl (hb hby at_203) rfl ?_
              show own_s p e below T119 m 205 #[iv i0, iv i1, iv p2, iv v2, iv i4, iv i5, iv s1, iv s3, .val w20, .val w24, rv b28, iv kd, rv b68, iv (0 : Int32), iv (own_ke i0 i1 w20 p2 v2 w24), iv (own_ke p2 v2 w24 i0 i1 w20)] [(.int (own_ke p2 v2 w24 i0 i1 w20))] _
              refine XS.iload X120.here hx rfl (hb hby at_205) rfl ?_
              show own_s p e below T119 m 207 #[iv i0, iv i1, iv p2, iv v2, iv i4, iv i5, iv s1, iv s3, .val w20, .val w24, rv b28, iv kd, rv b68, iv (0 : Int32), iv (own_ke i0 i1 w20 p2 v2 w24), iv (own_ke p2 v2 w24 i0 i1 w20)] [(.int (0 : Int32)), (.int (own_ke p2 v2 w24 i0 i1 w20))] _
              refine XS.icmpNo X120.here hx rfl (hb hby at_207) rfl (teq (show (own_ke p2 v2 w24 i0 i1 w20) = (0 : Int32) from if_neg (fun q => hc93 q.2.1.symm))).2 ?_
              show own_s p e below T119 m 210 #[iv i0, iv i1, iv p2, iv v2, iv i4, iv i5, iv s1, iv s3, .val w20, .val w24, rv b28, iv kd, rv b68, iv (0 : Int32), iv (own_ke i0 i1 w20 p2 v2 w24), iv (own_ke p2 v2 w24 i0 i1 w20)] [] _
              refine XS.iconst X120.here hx rfl (hb hby at_210) ?_
              show own_s p e below T119 m 211 #[iv i0, iv i1, iv p2, iv v2, iv i4, iv i5, iv s1, iv s3, .val w20, .val w24, rv b28, iv kd, rv b68, iv (0 : Int32), iv (own_ke i0 i1 w20 p2 v2 w24), iv (own_ke p2 v2 w24 i0 i1 w20)] [(.int (1 : Int32))] _
              refine XS.goto X120.here hx rfl (pc0 := 211) (pc' := 215) rfl (hb hby at_211) (by decide) (by decide) ?_
              exact kX
            subst hS0
            obtain ⟨fs, hr, hrun, hended, hW, hsame⟩ := X120.leave (v := (some (.int (1 : Int32)))) (fun h => by rw [Bd.returns] at h; cases h)
            refine ⟨_, _, pre122 _ (retN X120 hx (t := .boolean) Bd.returns (by simp) (hb hby at_215) hr), hrun, hended, _, _, rfl, ?_, ⟨_, rfl⟩, hW, hsame.mono (by decide) (by decide)⟩
            show Q0 Z i0 i1 i2 i3 i4 i5 U T ca h0 n0 (some (.int (1 : Int32))) T119.heap _
            exact ⟨rfl, N120⟩
        · skip
          have pre123 : ∀ t, own_s p e below T82 m 182 #[iv i0, iv i1, iv p2, iv v2, iv i4, iv i5, iv s1, iv s3, .val w20, .val w24, rv b28, iv kd, rv b68, iv (0 : Int32), .unset, .unset] [(.ref b68), (.ref b28)] t → Steps p.tables e below S0 t := by
            intro tX kX
            refine pre90 _ ?_
            show own_s p e below T82 m 156 #[iv i0, iv i1, iv p2, iv v2, iv i4, iv i5, iv s1, iv s3, .val w20, .val w24, rv b28, iv kd, rv b68, .unset, .unset, .unset] [(.int p2), (.int i0)] _
            refine XS.icmpYes X88.here hx rfl (pc0 := 156) (pc' := 175) rfl (hb hby at_156) rfl (feq hc91).2 (by decide) (by decide) ?_
            show own_s p e below T82 m 175 #[iv i0, iv i1, iv p2, iv v2, iv i4, iv i5, iv s1, iv s3, .val w20, .val w24, rv b28, iv kd, rv b68, .unset, .unset, .unset] [] _
            refine XS.iconst X88.here hx rfl (hb hby at_175) ?_
            show own_s p e below T82 m 176 #[iv i0, iv i1, iv p2, iv v2, iv i4, iv i5, iv s1, iv s3, .val w20, .val w24, rv b28, iv kd, rv b68, .unset, .unset, .unset] [(.int (0 : Int32))] _
            refine XS.istore X88.here hx rfl (hb hby at_176) rfl (l' := #[iv i0, iv i1, iv p2, iv v2, iv i4, iv i5, iv s1, iv s3, .val w20, .val w24, rv b28, iv kd, rv b68, iv (0 : Int32), .unset, .unset]) rfl ?_
            show own_s p e below T82 m 178 #[iv i0, iv i1, iv p2, iv v2, iv i4, iv i5, iv s1, iv s3, .val w20, .val w24, rv b28, iv kd, rv b68, iv (0 : Int32), .unset, .unset] [] _
            refine XS.aload X88.here hx rfl (hb hby at_178) rfl rfl ?_
            show own_s p e below T82 m 180 #[iv i0, iv i1, iv p2, iv v2, iv i4, iv i5, iv s1, iv s3, .val w20, .val w24, rv b28, iv kd, rv b68, iv (0 : Int32), .unset, .unset] [(.ref b28)] _
            refine XS.aload X88.here hx rfl (hb hby at_180) rfl rfl ?_
            exact kX
          obtain ⟨cq124, kq124, q124a, q124b, q124c⟩ := isOf hZ e82 f84_E
          obtain ⟨_, _, ⟨T124, L124, k124, n124⟩, -, X124, ⟨Lc124, hQ124, l124, y124, z124⟩, st124⟩ := X88.virtualBack hx (y := (⟨"com/example/farcall/farcall/service/BindingKey", "equals", "(Ljava/lang/Object;)Z"⟩ : MethodName)) (z := (⟨"com/example/farcall/farcall/service/BindingKey", "equals", "(Ljava/lang/Object;)Z"⟩ : MethodName)) hown (mvT hZ (hw _ (List.mem_of_getElem? (i := 22) rfl))) (mvT hZ (hw _ (List.mem_of_getElem? (i := 23) rfl))) (notFace_of_selects (args := #[]) (mvT hZ (hw _ (List.mem_of_getElem? (i := 25) rfl)))) (mvT hZ (hw _ (List.mem_of_getElem? (i := 25) rfl))) (mvT hZ (hw _ (List.mem_of_getElem? (i := 24) rfl))) (by decide) (backOf (W := 0) (rm4 l Z a0 hw [] b28 b68 i0 i1 w20 p2 v2 w24 T82.heap n0 Z82 fE82 hw20 hw24 f85_F f86_F f87_F fP82 fV82 fT82) hZ (hw _ (List.mem_of_getElem? (i := 26) rfl)) (hw _ (List.mem_of_getElem? (i := 9) rfl)) (by decide) (by decide)) q124a q124c (g := (mkF m 182 #[iv i0, iv i1, iv p2, iv v2, iv i4, iv i5, iv s1, iv s3, .val w20, .val w24, rv b28, iv kd, rv b68, iv (0 : Int32), .unset, .unset] [(.ref b68), (.ref b28)])) rfl (by rw [hml]; rfl) (Steps.refl _) (argsL := [(.ref b68)]) (rest := []) (lenOf pd0_2 rfl) rfl (by show 2 * 0 + _ ≤ _; exact Nat.le_of_eq rfl) (hb hby at_182) (fun _ _ => ⟨rfl, e82, (by decide : 2 + 0 ≤ _), (by decide : 6 + 0 ≤ _)⟩)
          dsimp only [Pt.U, Pt.locs, Pt.cells, Pt.slots] at X124 l124 y124 z124 st124 hQ124
          subst l124 y124 z124
          obtain ⟨rfl, Nq124, e124⟩ := hQ124
          have N124 := Fr.app N88 Nq124
          obtain ⟨LL125, X125, N125⟩ : ∃ LL, Stand p l e room_1 s m #[(.int i0), (.int i1), (.int i2), (.int i3), (.int i4), (.int i5)] below meth c T124 LL 2 6 ∧ Fr n0 LL := ⟨_, X124, N124⟩
          have pre126 : ∀ t, own_s p e below T124 m 185 #[iv i0, iv i1, iv p2, iv v2, iv i4, iv i5, iv s1, iv s3, .val w20, .val w24, rv b28, iv kd, rv b68, iv (0 : Int32), .unset, .unset] [(.int (own_ke i0 i1 w20 p2 v2 w24))] t → Steps p.tables e below S0 t := fun tX kX => pre123 _ (st124.trans kX)
          have pre127 : ∀ t, own_s p e below T124 m 191 #[iv i0, iv i1, iv p2, iv v2, iv i4, iv i5, iv s1, iv s3, .val w20, .val w24, rv b28, iv kd, rv b68, iv (0 : Int32), iv (own_ke i0 i1 w20 p2 v2 w24), .unset] [(.ref b28), (.ref b68)] t → Steps p.tables e below S0 t := by
            intro tX kX
            refine pre126 _ ?_
            show own_s p e below T124 m 185 #[iv i0, iv i1, iv p2, iv v2, iv i4, iv i5, iv s1, iv s3, .val w20, .val w24, rv b28, iv kd, rv b68, iv (0 : Int32), .unset, .unset] [(.int (own_ke i0 i1 w20 p2 v2 w24))] _
            refine XS.istore X125.here hx rfl (hb hby at_185) rfl (l' := #[iv i0, iv i1, iv p2, iv v2, iv i4, iv i5, iv s1, iv s3, .val w20, .val w24, rv b28, iv kd, rv b68, iv (0 : Int32), iv (own_ke i0 i1 w20 p2 v2 w24), .unset]) rfl ?_
            show own_s p e below T124 m 187 #[iv i0, iv i1, iv p2, iv v2, iv i4, iv i5, iv s1, iv s3, .val w20, .val w24, rv b28, iv kd, rv b68, iv (0 : Int32), iv (own_ke i0 i1 w20 p2 v2 w24), .unset] [] _
            refine XS.aload X125.here hx rfl (hb hby at_187) rfl rfl ?_
            show own_s p e below T124 m 189 #[iv i0, iv i1, iv p2, iv v2, iv i4, iv i5, iv s1, iv s3, .val w20, .val w24, rv b28, iv kd, rv b68, iv (0 : Int32), iv (own_ke i0 i1 w20 p2 v2 w24), .unset] [(.ref b68)] _
            refine XS.aload X125.here hx rfl (hb hby at_189) rfl rfl ?_
            exact kX
          obtain ⟨cq128, kq128, q128a, q128b, q128c⟩ := isOf hZ e124 fE82
          obtain ⟨_, _, ⟨T128, L128, k128, n128⟩, -, X128, ⟨Lc128, hQ128, l128, y128, z128⟩, st128⟩ := X125.virtualBack hx (y := (⟨"com/example/farcall/farcall/service/BindingKey", "equals", "(Ljava/lang/Object;)Z"⟩ : MethodName)) (z := (⟨"com/example/farcall/farcall/service/BindingKey", "equals", "(Ljava/lang/Object;)Z"⟩ : MethodName)) hown (mvT hZ (hw _ (List.mem_of_getElem? (i := 22) rfl))) (mvT hZ (hw _ (List.mem_of_getElem? (i := 23) rfl))) (notFace_of_selects (args := #[]) (mvT hZ (hw _ (List.mem_of_getElem? (i := 25) rfl)))) (mvT hZ (hw _ (List.mem_of_getElem? (i := 25) rfl))) (mvT hZ (hw _ (List.mem_of_getElem? (i := 24) rfl))) (by decide) (backOf (W := 0) (rm4 l Z a0 hw [] b68 b28 p2 v2 w24 i0 i1 w20 T82.heap n0 Z82 f84_E hw24 hw20 fP82 fV82 fT82 f85_F f86_F f87_F) hZ (hw _ (List.mem_of_getElem? (i := 26) rfl)) (hw _ (List.mem_of_getElem? (i := 9) rfl)) (by decide) (by decide)) q128a q128c (g := (mkF m 191 #[iv i0, iv i1, iv p2, iv v2, iv i4, iv i5, iv s1, iv s3, .val w20, .val w24, rv b28, iv kd, rv b68, iv (0 : Int32), iv (own_ke i0 i1 w20 p2 v2 w24), .unset] [(.ref b28), (.ref b68)])) rfl (by rw [hml]; rfl) (Steps.refl _) (argsL := [(.ref b28)]) (rest := []) (lenOf pd0_2 rfl) rfl (by show 2 * 0 + _ ≤ _; exact Nat.le_of_eq rfl) (hb hby at_191) (fun _ _ => ⟨rfl, e124, (by decide : 2 + 0 ≤ _), (by decide : 6 + 0 ≤ _)⟩)
          dsimp only [Pt.U, Pt.locs, Pt.cells, Pt.slots] at X128 l128 y128 z128 st128 hQ128
          subst l128 y128 z128
          obtain ⟨rfl, Nq128, e128⟩ := hQ128
          have N128 := Fr.app N125 Nq128
          obtain ⟨LL129, X129, N129⟩ : ∃ LL, Stand p l e room_1 s m #[(.int i0), (.int i1), (.int i2), (.int i3), (.int i4), (.int i5)] below meth c T128 LL 2 6 ∧ Fr n0 LL := ⟨_, X128, N128⟩
          have pre130 : ∀ t, own_s p e below T128 m 194 #[iv i0, iv i1, iv p2, iv v2, iv i4, iv i5, iv s1, iv s3, .val w20, .val w24, rv b28, iv kd, rv b68, iv (0 : Int32), iv (own_ke i0 i1 w20 p2 v2 w24), .unset] [(.int (own_ke p2 v2 w24 i0 i1 w20))] t → Steps p.tables e below S0 t := fun tX kX => pre127 _ (st128.trans kX)
          have pre131 : ∀ t, own_s p e below T128 m 215 #[iv i0, iv i1, iv p2, iv v2, iv i4, iv i5, iv s1, iv s3, .val w20, .val w24, rv b28, iv kd, rv b68, iv (0 : Int32), iv (own_ke i0 i1 w20 p2 v2 w24), iv (own_ke p2 v2 w24 i0 i1 w20)] [(.int (1 : Int32))] t → Steps p.tables e below S0 t := by
            intro tX kX
            refine pre130 _ ?_
            show own_s p e below T128 m 194 #[iv i0, iv i1, iv p2, iv v2, iv i4, iv i5, iv s1, iv s3, .val w20, .val w24, rv b28, iv kd, rv b68, iv (0 : Int32), iv (own_ke i0 i1 w20 p2 v2 w24), .unset] [(.int (own_ke p2 v2 w24 i0 i1 w20))] _
            refine XS.istore X129.here hx rfl (hb hby at_194) rfl (l' := #[iv i0, iv i1, iv p2, iv v2, iv i4, iv i5, iv s1, iv s3, .val w20, .val w24, rv b28, iv kd, rv b68, iv (0 : Int32), iv (own_ke i0 i1 w20 p2 v2 w24), iv (own_ke p2 v2 w24 i0 i1 w20)]) rfl ?_
            show own_s p e below T128 m 196 #[iv i0, iv i1, iv p2, iv v2, iv i4, iv i5, iv s1, iv s3, .val w20, .val w24, rv b28, iv kd, rv b68, iv (0 : Int32), iv (own_ke i0 i1 w20 p2 v2 w24), iv (own_ke p2 v2 w24 i0 i1 w20)] [] _
            refine XS.iload X129.here hx rfl (hb hby at_196) rfl ?_
            show own_s p e below T128 m 198 #[iv i0, iv i1, iv p2, iv v2, iv i4, iv i5, iv s1, iv s3, .val w20, .val w24, rv b28, iv kd, rv b68, iv (0 : Int32), iv (own_ke i0 i1 w20 p2 v2 w24), iv (own_ke p2 v2 w24 i0 i1 w20)] [(.int (own_ke i0 i1 w20 p2 v2 w24))] _
            refine XS.iload X129.here hx rfl (hb hby at_198) rfl ?_
            show own_s p e below T128 m 200 #[iv i0, iv i1, iv p2, iv v2, iv i4, iv i5, iv s1, iv s3, .val w20, .val w24, rv b28, iv kd, rv b68, iv (0 : Int32), iv (own_ke i0 i1 w20 p2 v2 w24), iv (own_ke p2 v2 w24 i0 i1 w20)] [(.int (0 : Int32)), (.int (own_ke i0 i1 w20 p2 v2 w24))] _
            refine XS.icmpNo X129.here hx rfl (hb hby at_200) rfl (teq (show (own_ke i0 i1 w20 p2 v2 w24) = (0 : Int32) from if_neg (fun q => hc91 q.1))).2 ?_
            show own_s p e below T128 m 203 #[iv i0, iv i1, iv p2, iv v2, iv i4, iv i5, iv s1, iv s3, .val w20, .val w24, rv b28, iv kd, rv b68, iv (0 : Int32), iv (own_ke i0 i1 w20 p2 v2 w24), iv (own_ke p2 v2 w24 i0 i1 w20)] [] _
            refine XS.iload X129.here hx rfl (hb hby at_203) rfl ?_
            show own_s p e below T128 m 205 #[iv i0, iv i1, iv p2, iv v2, iv i4, iv i5, iv s1, iv s3, .val w20, .val w24, rv b28, iv kd, rv b68, iv (0 : Int32), iv (own_ke i0 i1 w20 p2 v2 w24), iv (own_ke p2 v2 w24 i0 i1 w20)] [(.int (own_ke p2 v2 w24 i0 i1 w20))] _
            refine XS.iload X129.here hx rfl (hb hby at_205) rfl ?_
            show own_s p e below T128 m 207 #[iv i0, iv i1, iv p2, iv v2, iv i4, iv i5, iv s1, iv s3, .val w20, .val w24, rv b28, iv kd, rv b68, iv (0 : Int32), iv (own_ke i0 i1 w20 p2 v2 w24), iv (own_ke p2 v2 w24 i0 i1 w20)] [(.int (0 : Int32)), (.int (own_ke p2 v2 w24 i0 i1 w20))] _
            refine XS.icmpNo X129.here hx rfl (hb hby at_207) rfl (teq (show (own_ke p2 v2 w24 i0 i1 w20) = (0 : Int32) from if_neg (fun q => hc91 q.1.symm))).2 ?_
            show own_s p e below T128 m 210 #[iv i0, iv i1, iv p2, iv v2, iv i4, iv i5, iv s1, iv s3, .val w20, .val w24, rv b28, iv kd, rv b68, iv (0 : Int32), iv (own_ke i0 i1 w20 p2 v2 w24), iv (own_ke p2 v2 w24 i0 i1 w20)] [] _
            refine XS.iconst X129.here hx rfl (hb hby at_210) ?_
            show own_s p e below T128 m 211 #[iv i0, iv i1, iv p2, iv v2, iv i4, iv i5, iv s1, iv s3, .val w20, .val w24, rv b28, iv kd, rv b68, iv (0 : Int32), iv (own_ke i0 i1 w20 p2 v2 w24), iv (own_ke p2 v2 w24 i0 i1 w20)] [(.int (1 : Int32))] _
            refine XS.goto X129.here hx rfl (pc0 := 211) (pc' := 215) rfl (hb hby at_211) (by decide) (by decide) ?_
            exact kX
          subst hS0
          obtain ⟨fs, hr, hrun, hended, hW, hsame⟩ := X129.leave (v := (some (.int (1 : Int32)))) (fun h => by rw [Bd.returns] at h; cases h)
          refine ⟨_, _, pre131 _ (retN X129 hx (t := .boolean) Bd.returns (by simp) (hb hby at_215) hr), hrun, hended, _, _, rfl, ?_, ⟨_, rfl⟩, hW, hsame.mono (by decide) (by decide)⟩
          show Q0 Z i0 i1 i2 i3 i4 i5 U T ca h0 n0 (some (.int (1 : Int32))) T128.heap _
          exact ⟨rfl, N129⟩
set_option maxRecDepth 65536 in
set_option maxHeartbeats 40000000 in
theorem comes_1 {Post : Tables → Env → Array Value → State → Outcome → State → Prop} (hpost : ∀ tb e args s v u, (limb_1_1.after args s (.returned v) u = true ∧ limb_1_2.after args s (.returned v) u = true ∧ True) → FrameEnd s (.returned v) u (Jvm.fieldLocs frame_1_writes args s ++ Jvm.arrayLocs frame_1_arrays args s ++ Jvm.staticLocs frame_1_statics s) 16 128 → Post tb e args s (.returned v) u) :
    ArmFor flags0 classFile x code maxLocals ret World_1 tables_1 room_1 Calls_1 rest_1 Pre_1 Post := by
  intro l hfl _ _ p e ha hc hk s m args below hf hA hF happ hP
  obtain ⟨hcalls, hrest, hpre⟩ := hP
  obtain ⟨-, -, -, hnamed, -, -, -, hat⟩ := (Spec.applies_iff hf).mp happ
  obtain ⟨hg, hn⟩ := and_e (Cond.before_iff.mp (show (Jvm.Cond.and given_1 narrow_1).before args s = true from hpre))
  obtain ⟨hcnt, q0⟩ := and_e hg
  obtain ⟨ha0, q1⟩ := and_e q0
  obtain ⟨ha1, q2⟩ := and_e q1
  obtain ⟨ha2, q3⟩ := and_e q2
  obtain ⟨ha3, q4⟩ := and_e q3
  obtain ⟨ha4, q5⟩ := and_e q4
  have ha5 := q5
  obtain ⟨w0, w1, w2, w3, w4, w5, rfl⟩ : ∃ w0 w1 w2 w3 w4 w5 : Value, args = #[w0, w1, w2, w3, w4, w5] := by
    have hs : args.size = 6 := by simpa [Cond.value, given_1] using hcnt
    obtain ⟨L⟩ := args
    match L, hs with
    | [w0, w1, w2, w3, w4, w5], _ => exact ⟨w0, w1, w2, w3, w4, w5, rfl⟩
  have hw := fun d (hd : d ∈ tables_1) => atoms_spec (ws := Jvm.Cond.code x code maxLocals ret :: tables_1) hat d (List.mem_cons_of_mem _ hd)
  have hfit : Fit s := fun {y c} hc i hi => by
    obtain ⟨ha, rfl⟩ := Array.getElem?_eq_some_iff.mp hc
    have q := List.all_eq_true.mp ((Array.all_eq_true_iff_forall_mem.mp hF) _ (Array.getElem_mem ha)) i (List.mem_range.mpr hi)
    simpa [Array.getElem?_eq_getElem hi] using q
  obtain ⟨i0, ei0⟩ := is_v ha0
  obtain rfl : w0 = (.int i0) := Option.some.inj ei0
  obtain ⟨i1, ei1⟩ := is_v ha1
  obtain rfl : w1 = (.int i1) := Option.some.inj ei1
  obtain ⟨i2, ei2⟩ := is_v ha2
  obtain rfl : w2 = (.int i2) := Option.some.inj ei2
  obtain ⟨i3, ei3⟩ := is_v ha3
  obtain rfl : w3 = (.int i3) := Option.some.inj ei3
  obtain ⟨i4, ei4⟩ := is_v ha4
  obtain rfl : w4 = (.int i4) := Option.some.inj ei4
  obtain ⟨i5, ei5⟩ := is_v ha5
  obtain rfl : w5 = (.int i5) := Option.some.inj ei5
  obtain ⟨nL1, nR1⟩ := and_e hn
  obtain ⟨nL2, nR2⟩ := and_e nR1
  obtain ⟨kT, evT⟩ := exa_v nL1
  obtain ⟨kU, evU⟩ := exa_v nL2
  have S_T := Sta.start evT (Or.inr ⟨(hw _ (List.mem_of_getElem? (i := 5) rfl)), (hw _ (List.mem_of_getElem? (i := 6) rfl))⟩)
  have S_U := Sta.start evU (Or.inr ⟨(hw _ (List.mem_of_getElem? (i := 5) rfl)), (hw _ (List.mem_of_getElem? (i := 30) rfl))⟩)
  obtain ⟨hsets, hown0⟩ := atoms_of _ (rest_1_c_eq ▸ (show rest_1_c.before _ s = true from hrest))
  have hS := fun k (hk : k ∈ jdkStatics_1) => Cond.before_iff.mp (hsets k hk)
  have S_h := Sta.start (own_fe (hS _ (List.mem_of_getElem? (i := 3) rfl))) (Or.inl (hsets _ (List.mem_of_getElem? (i := 1) rfl)))
  obtain ⟨ca, evC⟩ := arr_v (hS _ (List.mem_of_getElem? (i := 4) rfl))
  have S_c := Sta.start evC (Or.inr ⟨(hw _ (List.mem_of_getElem? (i := 54) rfl)), hsets _ (List.mem_of_getElem? (i := 2) rfl)⟩)
  obtain ⟨cl, AC⟩ := Arr.start evC (hS _ (List.mem_of_getElem? (i := 4) rfl))
  have CA : own_Ca s s.heap ca := by
    have hat0 : s.arrayAt? ca = some cl := Arr.fin (State.Warmed39.refl s).alike AC
    have L6 := own_fe (hS _ (List.mem_of_getElem? (i := 6) rfl))
    have hsz : cl.slots.size = 256 := by
      exact own_len evC hat0 L6
    refine ⟨cl, AC, hsz, fun j hj => ?_⟩
    have h7 := Cond.all_elim evC hat0 (hS _ (List.mem_of_getElem? (i := 7) rfl)) j (by rw [hsz]; exact hj)
    obtain ⟨g1, -⟩ := and_e h7
    obtain ⟨r, er⟩ := exa_v g1
    have hj32 : (j.toInt32).toInt = (j : Int) := Int32.toInt_ofNat_of_lt (by omega)
    have hn : ¬ j.toInt32 < 0 := (own_idx (n := 256) (by omega) (by omega)).1
    have hcl : j.toInt32.toNatClampNeg = j := by simp only [Int32.toNatClampNeg]; omega
    have e2 := elem_f (args := #[.int i0, .int i1, .int i2, .int i3, .int i4, .int i5]) (first := s) (o := none) (idx := [j]) (t := .static "java/lang/Integer$IntegerCache" "cache" "[Ljava/lang/Integer;") (a := .index 0) (show _ = _ from evC) (Term.index_eval j) hat0 hn
    rw [hcl] at e2
    exact ⟨r, e2.symm.trans er, exa_at er g1⟩
  obtain ⟨n, o, h1, h2, h3, _, L, rfl, ⟨rfl, N⟩, hq⟩ := rm0 l s _ hw tables_1 i0 i1 i2 i3 i4 i5 kU kT ca s.heap s.heap.size (Nat.le_refl _) (Old.start s) S_U S_T S_h S_c CA p e ha hc hk s m _ below hf ((Spec.applies_iff_loose hf).mp happ).1 ⟨rfl, State.Warmed39.refl s, rfl⟩ trivial
  refine ⟨n, _, h1, h2, h3, hpost _ _ _ _ _ _ ⟨Cond.after_iff.mpr rfl, Cond.after_iff.mpr (eq_i res_at (Term.int_eval (1)) rfl), trivial⟩ ⟨hq.1, hq.2.1, (hq.2.2.sift fun y hy => Or.inr (N y hy)).mono (by decide) (by decide)⟩⟩
theorem main_1_1 : Claimed_1_1 := comes_1 fun _ _ _ _ _ _ h hF => ⟨h.1, hF⟩
theorem main_1_2 : Claimed_1_2 := comes_1 fun _ _ _ _ _ _ h hF => ⟨h.2.1, hF⟩
end Jvm.Pilot.@@N@@
namespace Jvm.Pilot.@@N@@
open Jvm Jvm.ClassFile Sem Op Lib Jvm.Free Jvm.Stand Jvm.Pilot.@@N@@.Jvm.D
/-! MADE BY PROGRAM (witnessworld.py) out of the Statement's table words and the real class files: 18 classes; the members and pool entries that the words name. The judged class is class 1, her method 2. -/
namespace start1
open Jvm.ClassFile
def u (s : String) : CpInfo := .utf8 (stringToUtf16 s)
/-- a pool by its gaps: so many unusable entries, then the entry; so many at the end -/
def gap : Nat → List CpInfo → List CpInfo
  | 0, r => r
  | n + 1, r => .unusable :: gap n r
def poolList (es : List (Nat × CpInfo)) (last : Nat) : List CpInfo := es.foldr (fun e r => gap e.1 (e.2 :: r)) (gap last [])
def pool (es : List (Nat × CpInfo)) (last : Nat) : Array CpInfo := ⟨poolList es last⟩
def fileOf (pool : Array CpInfo) (this : Nat) (attrs : Array Attribute := #[]) (ms : Array MethodInfo := #[]) (fl : Nat := 33) (sup : Nat := 0) (ifs : Array Nat := #[]) (fds : Array FieldInfo := #[]) : ClassFile where
  minorVersion := 0
  majorVersion := 65
  constantPool := pool
  accessFlags := fl
  thisClass := this
  superClass := sup
  interfaces := ifs
  fields := fds
  methods := ms
  attributes := attrs
def plain (name : String) (sup : Option ClassId) : Class where
  name := name
  kind := .ordinary
  loader := none
  accessFlags := 33
  super := sup
  interfaces := #[]
  cf := none
  fields := #[]
  methods := #[]
  instanceTypes := #[]
  staticTypes := #[]
  resolved := #[]
  callSites := []
  init := .initialized
  statics := none
  mirror := none

def pool0 : Array CpInfo := pool [(5, u "<init>"), (0, u "()V"), (1, .class_ 10), (1, u "java/lang/Object")] 113

def k0c0 : Code := { maxStack := 0, maxLocals := 1, code := object_method_1_code, exceptionTable := #[], attributes := #[] }
def k0m0 : Method := { name := "<init>", desc := "()V", sig := { parameters := [], returnType := none }, accessFlags := 1, code := some k0c0 }
/-- java/lang/Object -/
def k0 : Class := { plain "java/lang/Object" none with
  accessFlags := 33
  interfaces := #[]
  cf := some (fileOf pool0 8 #[] #[{ accessFlags := 1, nameIndex := 5, descriptorIndex := 6, attributes := #[] }] 33 0 #[] #[])
  fields := #[]
  methods := #[k0m0]
  instanceTypes := #[]
  staticTypes := #[]
  resolved := Array.replicate 124 none
  statics := none }

def pool1 : Array CpInfo := pool [(2, .class_ 4), (1, u "java/lang/Object"), (0, u "<init>"), (0, u "()V"), (0, .fieldref 8 9), (0, .class_ 10), (0, .nameAndType 11 12), (0, u "com/example/farcall/farcall/io/Transport"), (0, u "UDP"), (0, u "Lcom/example/farcall/farcall/io/Transport;"), (0, .fieldref 8 14), (0, .nameAndType 15 12), (0, u "TCP"), (0, .methodref 17 18), (0, .class_ 19), (0, .nameAndType 20 21), (0, u "com/example/farcall/farcall/service/BindingKeyEqualsPinLaw"), (0, u "pick"), (0, u "(I)Lcom/example/farcall/farcall/io/Transport;"), (0, .class_ 23), (0, u "com/example/farcall/farcall/service/BindingKey"), (0, .methodref 22 25), (0, .nameAndType 5 26), (0, u "(IILcom/example/farcall/farcall/io/Transport;)V"), (0, .methodref 22 28), (0, .nameAndType 29 30), (0, u "equals"), (0, u "(Ljava/lang/Object;)Z"), (0, .methodref 32 33), (0, .class_ 34), (0, .nameAndType 35 36), (0, u "java/lang/Integer"), (0, u "valueOf"), (0, u "(I)Ljava/lang/Integer;"), (3, u "law"), (0, u "(IIIIII)Z")] 2

def k1m0 : Method := { name := "<init>", desc := "()V", sig := { parameters := [], returnType := none }, accessFlags := 1, code := none }
def k1c1 : Code := { maxStack := 2, maxLocals := 1, code := method_2_code, exceptionTable := #[], attributes := #[] }
def k1m1 : Method := { name := "pick", desc := "(I)Lcom/example/farcall/farcall/io/Transport;", sig := { parameters := [.int], returnType := some (.object "com/example/farcall/farcall/io/Transport") }, accessFlags := 10, code := some k1c1 }
def k1c2 : Code := { maxStack := 5, maxLocals := 16, code := code, exceptionTable := #[], attributes := #[] }
def k1m2 : Method := { name := "law", desc := "(IIIIII)Z", sig := { parameters := [.int, .int, .int, .int, .int, .int], returnType := some .boolean }, accessFlags := 9, code := some k1c2 }
/-- com/example/farcall/farcall/service/BindingKeyEqualsPinLaw -/
def k1 : Class := { plain "com/example/farcall/farcall/service/BindingKeyEqualsPinLaw" (some 0) with
  accessFlags := 49
  interfaces := #[]
  cf := some (fileOf pool1 17 #[] #[{ accessFlags := 1, nameIndex := 5, descriptorIndex := 6, attributes := #[] }, { accessFlags := 10, nameIndex := 20, descriptorIndex := 21, attributes := #[] }, { accessFlags := 9, nameIndex := 40, descriptorIndex := 41, attributes := #[] }] 49 2 #[] #[])
  fields := #[]
  methods := #[k1m0, k1m1, k1m2]
  instanceTypes := #[]
  staticTypes := #[]
  resolved := Array.replicate 44 none
  statics := none }

def pool2 : Array CpInfo := pool [(1, .class_ 2), (0, u "java/lang/constant/Constable"), (0, .class_ 4), (0, u "java/lang/Object")] 6

/-- java/lang/constant/Constable -/
def k2 : Class := { plain "java/lang/constant/Constable" (some 0) with
  accessFlags := 1537
  interfaces := #[]
  cf := some (fileOf pool2 1 #[] #[] 1537 3 #[] #[])
  fields := #[]
  methods := #[]
  instanceTypes := #[]
  staticTypes := #[]
  resolved := Array.replicate 11 none
  statics := none }

def pool3 : Array CpInfo := pool [(1, .class_ 2), (0, u "java/lang/Comparable"), (0, .class_ 4), (0, u "java/lang/Object")] 7

/-- java/lang/Comparable -/
def k3 : Class := { plain "java/lang/Comparable" (some 0) with
  accessFlags := 1537
  interfaces := #[]
  cf := some (fileOf pool3 1 #[] #[] 1537 3 #[] #[])
  fields := #[]
  methods := #[]
  instanceTypes := #[]
  staticTypes := #[]
  resolved := Array.replicate 12 none
  statics := none }

def pool4 : Array CpInfo := pool [(1, .class_ 2), (0, u "java/io/Serializable"), (0, .class_ 4), (0, u "java/lang/Object")] 2

/-- java/io/Serializable -/
def k4 : Class := { plain "java/io/Serializable" (some 0) with
  accessFlags := 1537
  interfaces := #[]
  cf := some (fileOf pool4 1 #[] #[] 1537 3 #[] #[])
  fields := #[]
  methods := #[]
  instanceTypes := #[]
  staticTypes := #[]
  resolved := Array.replicate 7 none
  statics := none }

def pool5 : Array CpInfo := pool [(2, .class_ 4), (1, u "java/lang/Enum"), (0, u "name"), (0, u "Ljava/lang/String;"), (2, u "ordinal"), (0, u "I"), (1, .class_ 14), (1, u "java/lang/Object"), (4, u "hash"), (86, .class_ 108), (1, u "java/lang/Enum$EnumDesc"), (2, .class_ 112), (0, u "java/lang/constant/Constable"), (0, .class_ 114), (0, u "java/lang/Comparable"), (0, .class_ 116), (0, u "java/io/Serializable")] 87

/-- java/lang/Enum -/
def k5 : Class := { plain "java/lang/Enum" (some 0) with
  accessFlags := 1057
  interfaces := #[2, 3, 4]
  cf := some (fileOf pool5 2 #[.nestMembers #[106]] #[] 1057 12 #[111, 113, 115] #[{ accessFlags := 18, nameIndex := 5, descriptorIndex := 6, attributes := #[] }, { accessFlags := 18, nameIndex := 9, descriptorIndex := 10, attributes := #[] }, { accessFlags := 2, nameIndex := 19, descriptorIndex := 10, attributes := #[] }])
  fields := #[{ name := "name", type := (.object "java/lang/String"), accessFlags := 18, slot := 0, constantValue := 0 }, { name := "ordinal", type := .int, accessFlags := 18, slot := 1, constantValue := 0 }, { name := "hash", type := .int, accessFlags := 2, slot := 2, constantValue := 0 }]
  methods := #[]
  instanceTypes := #[(.object "java/lang/String"), .int, .int]
  staticTypes := #[]
  resolved := Array.replicate 204 none
  statics := none }

def pool6 : Array CpInfo := pool [(1, .class_ 2), (0, u "com/example/farcall/farcall/io/Transport"), (2, u "TCP"), (0, u "Lcom/example/farcall/farcall/io/Transport;"), (2, u "UDP"), (2, u "$VALUES"), (0, u "[Lcom/example/farcall/farcall/io/Transport;"), (6, .class_ 22), (1, u "java/lang/Enum"), (8, u "protocol"), (0, u "I"), (2, u "netid"), (0, u "Ljava/lang/String;"), (2, u "semantics"), (2, u "protocolName")] 43

/-- com/example/farcall/farcall/io/Transport -/
def k6 : Class := { plain "com/example/farcall/farcall/io/Transport" (some 5) with
  accessFlags := 16433
  interfaces := #[]
  cf := some (fileOf pool6 1 #[] #[] 16433 20 #[] #[{ accessFlags := 16409, nameIndex := 5, descriptorIndex := 6, attributes := #[] }, { accessFlags := 16409, nameIndex := 9, descriptorIndex := 6, attributes := #[] }, { accessFlags := 18, nameIndex := 31, descriptorIndex := 32, attributes := #[] }, { accessFlags := 18, nameIndex := 35, descriptorIndex := 36, attributes := #[] }, { accessFlags := 18, nameIndex := 39, descriptorIndex := 32, attributes := #[] }, { accessFlags := 18, nameIndex := 42, descriptorIndex := 36, attributes := #[] }, { accessFlags := 4122, nameIndex := 12, descriptorIndex := 13, attributes := #[] }])
  fields := #[{ name := "TCP", type := (.object "com/example/farcall/farcall/io/Transport"), accessFlags := 16409, slot := 0, constantValue := 0 }, { name := "UDP", type := (.object "com/example/farcall/farcall/io/Transport"), accessFlags := 16409, slot := 1, constantValue := 0 }, { name := "protocol", type := .int, accessFlags := 18, slot := 3, constantValue := 0 }, { name := "netid", type := (.object "java/lang/String"), accessFlags := 18, slot := 4, constantValue := 0 }, { name := "semantics", type := .int, accessFlags := 18, slot := 5, constantValue := 0 }, { name := "protocolName", type := (.object "java/lang/String"), accessFlags := 18, slot := 6, constantValue := 0 }, { name := "$VALUES", type := (.array (.object "com/example/farcall/farcall/io/Transport")), accessFlags := 4122, slot := 2, constantValue := 0 }]
  methods := #[]
  instanceTypes := #[(.object "java/lang/String"), .int, .int, .int, (.object "java/lang/String"), .int, (.object "java/lang/String")]
  staticTypes := #[(.object "com/example/farcall/farcall/io/Transport"), (.object "com/example/farcall/farcall/io/Transport"), (.array (.object "com/example/farcall/farcall/io/Transport"))]
  resolved := Array.replicate 86 none
  statics := some 0 }

def pool7 : Array CpInfo := pool [(1, .methodref 2 3), (0, .class_ 4), (0, .nameAndType 5 6), (0, u "java/lang/Object"), (0, u "<init>"), (0, u "()V"), (0, .fieldref 8 9), (0, .class_ 10), (0, .nameAndType 11 12), (0, u "com/example/farcall/farcall/service/BindingKey"), (0, u "program"), (0, u "I"), (0, .fieldref 8 14), (0, .nameAndType 15 12), (0, u "version"), (0, .fieldref 8 17), (0, .nameAndType 18 19), (0, u "transport"), (0, u "Lcom/example/farcall/farcall/io/Transport;"), (12, u "(IILcom/example/farcall/farcall/io/Transport;)V"), (7, u "equals"), (0, u "(Ljava/lang/Object;)Z")] 4

def k7c0 : Code := { maxStack := 2, maxLocals := 4, code := prog_64_method_1_code, exceptionTable := #[], attributes := #[] }
def k7m0 : Method := { name := "<init>", desc := "(IILcom/example/farcall/farcall/io/Transport;)V", sig := { parameters := [.int, .int, (.object "com/example/farcall/farcall/io/Transport")], returnType := none }, accessFlags := 0, code := some k7c0 }
def k7c1 : Code := { maxStack := 2, maxLocals := 3, code := prog_64_method_5_code, exceptionTable := #[], attributes := #[] }
def k7m1 : Method := { name := "equals", desc := "(Ljava/lang/Object;)Z", sig := { parameters := [(.object "java/lang/Object")], returnType := some .boolean }, accessFlags := 1, code := some k7c1 }
/-- com/example/farcall/farcall/service/BindingKey -/
def k7 : Class := { plain "com/example/farcall/farcall/service/BindingKey" (some 0) with
  accessFlags := 48
  interfaces := #[]
  cf := some (fileOf pool7 8 #[] #[{ accessFlags := 0, nameIndex := 5, descriptorIndex := 32, attributes := #[] }, { accessFlags := 1, nameIndex := 40, descriptorIndex := 41, attributes := #[] }] 48 2 #[] #[{ accessFlags := 18, nameIndex := 11, descriptorIndex := 12, attributes := #[] }, { accessFlags := 18, nameIndex := 15, descriptorIndex := 12, attributes := #[] }, { accessFlags := 18, nameIndex := 18, descriptorIndex := 19, attributes := #[] }])
  fields := #[{ name := "program", type := .int, accessFlags := 18, slot := 0, constantValue := 0 }, { name := "version", type := .int, accessFlags := 18, slot := 1, constantValue := 0 }, { name := "transport", type := (.object "com/example/farcall/farcall/io/Transport"), accessFlags := 18, slot := 2, constantValue := 0 }]
  methods := #[k7m0, k7m1]
  instanceTypes := #[.int, .int, (.object "com/example/farcall/farcall/io/Transport")]
  staticTypes := #[]
  resolved := Array.replicate 46 none
  statics := none }

def pool8 : Array CpInfo := pool [(1, .methodref 2 3), (0, .class_ 4), (0, .nameAndType 5 6), (0, u "java/lang/Object"), (0, u "<init>"), (0, u "()V"), (1, .class_ 10), (1, u "java/lang/Number"), (2, .class_ 14), (0, u "java/io/Serializable"), (0, u "serialVersionUID"), (0, u "J")] 20

def k8c0 : Code := { maxStack := 1, maxLocals := 1, code := jdk_18_method_1_code, exceptionTable := #[], attributes := #[] }
def k8m0 : Method := { name := "<init>", desc := "()V", sig := { parameters := [], returnType := none }, accessFlags := 1, code := some k8c0 }
/-- java/lang/Number -/
def k8 : Class := { plain "java/lang/Number" (some 0) with
  accessFlags := 1057
  interfaces := #[4]
  cf := some (fileOf pool8 8 #[] #[{ accessFlags := 1, nameIndex := 5, descriptorIndex := 6, attributes := #[] }] 1057 2 #[13] #[{ accessFlags := 26, nameIndex := 15, descriptorIndex := 16, attributes := #[] }])
  fields := #[{ name := "serialVersionUID", type := .long, accessFlags := 26, slot := 0, constantValue := 0 }]
  methods := #[k8m0]
  instanceTypes := #[]
  staticTypes := #[.long]
  resolved := Array.replicate 37 none
  statics := none }

def pool9 : Array CpInfo := pool [(1, .class_ 2), (0, u "java/lang/constant/ConstantDesc"), (0, .class_ 4), (0, u "java/lang/Object")] 32

/-- java/lang/constant/ConstantDesc -/
def k9 : Class := { plain "java/lang/constant/ConstantDesc" (some 0) with
  accessFlags := 1537
  interfaces := #[]
  cf := some (fileOf pool9 1 #[] #[] 1537 3 #[] #[])
  fields := #[]
  methods := #[]
  instanceTypes := #[]
  staticTypes := #[]
  resolved := Array.replicate 37 none
  statics := none }

def pool10 : Array CpInfo := pool [(1, .class_ 2), (0, u "java/lang/Integer"), (16, u "digits"), (0, u "[C"), (46, u "<init>"), (17, u "DigitOnes"), (0, u "[B"), (2, u "DigitTens"), (10, .nameAndType 67 101), (0, u "()V"), (85, u "valueOf"), (0, u "(I)Ljava/lang/Integer;"), (0, .class_ 190), (0, u "java/lang/Integer$IntegerCache"), (0, .fieldref 189 192), (0, .nameAndType 193 194), (0, u "high"), (0, u "I"), (0, .fieldref 189 196), (0, .nameAndType 197 198), (0, u "cache"), (0, u "[Ljava/lang/Integer;"), (0, .methodref 1 200), (0, .nameAndType 67 201), (0, u "(I)V"), (0, .methodref 203 100), (0, .class_ 204), (0, u "java/lang/Number"), (0, .fieldref 1 206), (0, .nameAndType 207 194), (0, u "value"), (94, u "TYPE"), (0, u "Ljava/lang/Class;"), (0, .class_ 305), (0, u "java/lang/Comparable"), (0, .class_ 307), (0, u "java/lang/constant/Constable"), (0, .class_ 309), (0, u "java/lang/constant/ConstantDesc"), (0, u "MIN_VALUE"), (1, u "MAX_VALUE"), (3, u "SIZE"), (1, u "BYTES"), (1, u "serialVersionUID"), (0, u "J")] 131

def k10c0 : Code := { maxStack := 3, maxLocals := 1, code := jdk_33_method_22_code, exceptionTable := #[], attributes := #[] }
def k10m0 : Method := { name := "valueOf", desc := "(I)Ljava/lang/Integer;", sig := { parameters := [.int], returnType := some (.object "java/lang/Integer") }, accessFlags := 9, code := some k10c0 }
def k10c1 : Code := { maxStack := 2, maxLocals := 2, code := jdk_33_method_23_code, exceptionTable := #[], attributes := #[] }
def k10m1 : Method := { name := "<init>", desc := "(I)V", sig := { parameters := [.int], returnType := none }, accessFlags := 1, code := some k10c1 }
/-- java/lang/Integer -/
def k10 : Class := { plain "java/lang/Integer" (some 8) with
  accessFlags := 49
  interfaces := #[3, 2, 9]
  cf := some (fileOf pool10 1 #[.nestMembers #[189]] #[{ accessFlags := 9, nameIndex := 187, descriptorIndex := 188, attributes := #[] }, { accessFlags := 1, nameIndex := 67, descriptorIndex := 201, attributes := #[] }] 49 203 #[304, 306, 308] #[{ accessFlags := 25, nameIndex := 310, descriptorIndex := 194, attributes := #[] }, { accessFlags := 25, nameIndex := 312, descriptorIndex := 194, attributes := #[] }, { accessFlags := 25, nameIndex := 302, descriptorIndex := 303, attributes := #[] }, { accessFlags := 24, nameIndex := 19, descriptorIndex := 20, attributes := #[] }, { accessFlags := 24, nameIndex := 89, descriptorIndex := 86, attributes := #[] }, { accessFlags := 24, nameIndex := 85, descriptorIndex := 86, attributes := #[] }, { accessFlags := 18, nameIndex := 207, descriptorIndex := 194, attributes := #[] }, { accessFlags := 25, nameIndex := 316, descriptorIndex := 194, attributes := #[] }, { accessFlags := 25, nameIndex := 318, descriptorIndex := 194, attributes := #[] }, { accessFlags := 26, nameIndex := 320, descriptorIndex := 321, attributes := #[] }])
  fields := #[{ name := "MIN_VALUE", type := .int, accessFlags := 25, slot := 0, constantValue := 0 }, { name := "MAX_VALUE", type := .int, accessFlags := 25, slot := 1, constantValue := 0 }, { name := "TYPE", type := (.object "java/lang/Class"), accessFlags := 25, slot := 2, constantValue := 0 }, { name := "digits", type := (.array .char), accessFlags := 24, slot := 3, constantValue := 0 }, { name := "DigitTens", type := (.array .byte), accessFlags := 24, slot := 4, constantValue := 0 }, { name := "DigitOnes", type := (.array .byte), accessFlags := 24, slot := 5, constantValue := 0 }, { name := "value", type := .int, accessFlags := 18, slot := 0, constantValue := 0 }, { name := "SIZE", type := .int, accessFlags := 25, slot := 6, constantValue := 0 }, { name := "BYTES", type := .int, accessFlags := 25, slot := 7, constantValue := 0 }, { name := "serialVersionUID", type := .long, accessFlags := 26, slot := 8, constantValue := 0 }]
  methods := #[k10m0, k10m1]
  instanceTypes := #[.int]
  staticTypes := #[.int, .int, (.object "java/lang/Class"), (.array .char), (.array .byte), (.array .byte), .int, .int, .long]
  resolved := Array.replicate 453 none
  statics := none }

def pool11 : Array CpInfo := pool [(2, .class_ 4), (1, u "java/lang/Object"), (0, u "<init>"), (0, u "()V"), (0, .class_ 8), (0, u "java/lang/Integer"), (7, .class_ 18), (1, u "java/lang/Integer$IntegerCache"), (0, u "$assertionsDisabled"), (0, u "Z"), (26, u "high"), (0, u "I"), (8, u "archivedCache"), (0, u "[Ljava/lang/Integer;"), (12, u "cache"), (0, u "low")] 27

def k11m0 : Method := { name := "<init>", desc := "()V", sig := { parameters := [], returnType := none }, accessFlags := 2, code := none }
/-- java/lang/Integer$IntegerCache -/
def k11 : Class := { plain "java/lang/Integer$IntegerCache" (some 0) with
  accessFlags := 48
  interfaces := #[]
  cf := some (fileOf pool11 16 #[.nestHost 7] #[{ accessFlags := 2, nameIndex := 5, descriptorIndex := 6, attributes := #[] }] 48 2 #[] #[{ accessFlags := 24, nameIndex := 72, descriptorIndex := 48, attributes := #[] }, { accessFlags := 24, nameIndex := 47, descriptorIndex := 48, attributes := #[] }, { accessFlags := 24, nameIndex := 71, descriptorIndex := 58, attributes := #[] }, { accessFlags := 8, nameIndex := 57, descriptorIndex := 58, attributes := #[] }, { accessFlags := 4120, nameIndex := 19, descriptorIndex := 20, attributes := #[] }])
  fields := #[{ name := "low", type := .int, accessFlags := 24, slot := 0, constantValue := 0 }, { name := "high", type := .int, accessFlags := 24, slot := 1, constantValue := 0 }, { name := "cache", type := (.array (.object "java/lang/Integer")), accessFlags := 24, slot := 2, constantValue := 0 }, { name := "archivedCache", type := (.array (.object "java/lang/Integer")), accessFlags := 8, slot := 3, constantValue := 0 }, { name := "$assertionsDisabled", type := .boolean, accessFlags := 4120, slot := 4, constantValue := 0 }]
  methods := #[k11m0]
  instanceTypes := #[]
  staticTypes := #[.int, .int, (.array (.object "java/lang/Integer")), (.array (.object "java/lang/Integer")), .boolean]
  resolved := Array.replicate 100 none
  statics := some 1 }

def pool12 : Array CpInfo := pool [(1, u "java/lang/Cloneable"), (0, .class_ 1), (0, u "java/lang/Object"), (0, .class_ 3)] 3

/-- java/lang/Cloneable -/
def k12 : Class := { plain "java/lang/Cloneable" (some 0) with
  accessFlags := 1537
  interfaces := #[]
  cf := some (fileOf pool12 2 #[] #[] 1537 4 #[] #[])
  fields := #[]
  methods := #[]
  instanceTypes := #[]
  staticTypes := #[]
  resolved := Array.replicate 8 none
  statics := none }

/-- the primitive byte -/
def k13 : Class := { plain "byte" none with kind := .primitive 'B', accessFlags := 0x411 }
/-- [B -/
def k14 : Class := { plain "[B" (some 0) with kind := .array 13 .byte, interfaces := #[12, 4], accessFlags := 1041 }

/-- the primitive int -/
def k15 : Class := { plain "int" none with kind := .primitive 'I', accessFlags := 0x411 }
/-- [I -/
def k16 : Class := { plain "[I" (some 0) with kind := .array 15 .int, interfaces := #[12, 4], accessFlags := 1041 }

/-- [Ljava/lang/Integer; -/
def k17 : Class := { plain "[Ljava/lang/Integer;" (some 0) with kind := .array 10 (.object "java/lang/Integer"), interfaces := #[12, 4], accessFlags := 1041 }

def heap : Heap := #[{ cls := 6, slots := #[.ref 259, .ref 260, .null], vm := .statics 6 },
  { cls := 11, slots := #[.int 0, .int 127, .ref 2, .null, .int 0], vm := .statics 11 },
  { cls := 17, slots := #[.ref 3, .ref 4, .ref 5, .ref 6, .ref 7, .ref 8, .ref 9, .ref 10, .ref 11, .ref 12, .ref 13, .ref 14, .ref 15, .ref 16, .ref 17, .ref 18, .ref 19, .ref 20, .ref 21, .ref 22, .ref 23, .ref 24, .ref 25, .ref 26, .ref 27, .ref 28, .ref 29, .ref 30, .ref 31, .ref 32, .ref 33, .ref 34, .ref 35, .ref 36, .ref 37, .ref 38, .ref 39, .ref 40, .ref 41, .ref 42, .ref 43, .ref 44, .ref 45, .ref 46, .ref 47, .ref 48, .ref 49, .ref 50, .ref 51, .ref 52, .ref 53, .ref 54, .ref 55, .ref 56, .ref 57, .ref 58, .ref 59, .ref 60, .ref 61, .ref 62, .ref 63, .ref 64, .ref 65, .ref 66, .ref 67, .ref 68, .ref 69, .ref 70, .ref 71, .ref 72, .ref 73, .ref 74, .ref 75, .ref 76, .ref 77, .ref 78, .ref 79, .ref 80, .ref 81, .ref 82, .ref 83, .ref 84, .ref 85, .ref 86, .ref 87, .ref 88, .ref 89, .ref 90, .ref 91, .ref 92, .ref 93, .ref 94, .ref 95, .ref 96, .ref 97, .ref 98, .ref 99, .ref 100, .ref 101, .ref 102, .ref 103, .ref 104, .ref 105, .ref 106, .ref 107, .ref 108, .ref 109, .ref 110, .ref 111, .ref 112, .ref 113, .ref 114, .ref 115, .ref 116, .ref 117, .ref 118, .ref 119, .ref 120, .ref 121, .ref 122, .ref 123, .ref 124, .ref 125, .ref 126, .ref 127, .ref 128, .ref 129, .ref 130, .ref 131, .ref 132, .ref 133, .ref 134, .ref 135, .ref 136, .ref 137, .ref 138, .ref 139, .ref 140, .ref 141, .ref 142, .ref 143, .ref 144, .ref 145, .ref 146, .ref 147, .ref 148, .ref 149, .ref 150, .ref 151, .ref 152, .ref 153, .ref 154, .ref 155, .ref 156, .ref 157, .ref 158, .ref 159, .ref 160, .ref 161, .ref 162, .ref 163, .ref 164, .ref 165, .ref 166, .ref 167, .ref 168, .ref 169, .ref 170, .ref 171, .ref 172, .ref 173, .ref 174, .ref 175, .ref 176, .ref 177, .ref 178, .ref 179, .ref 180, .ref 181, .ref 182, .ref 183, .ref 184, .ref 185, .ref 186, .ref 187, .ref 188, .ref 189, .ref 190, .ref 191, .ref 192, .ref 193, .ref 194, .ref 195, .ref 196, .ref 197, .ref 198, .ref 199, .ref 200, .ref 201, .ref 202, .ref 203, .ref 204, .ref 205, .ref 206, .ref 207, .ref 208, .ref 209, .ref 210, .ref 211, .ref 212, .ref 213, .ref 214, .ref 215, .ref 216, .ref 217, .ref 218, .ref 219, .ref 220, .ref 221, .ref 222, .ref 223, .ref 224, .ref 225, .ref 226, .ref 227, .ref 228, .ref 229, .ref 230, .ref 231, .ref 232, .ref 233, .ref 234, .ref 235, .ref 236, .ref 237, .ref 238, .ref 239, .ref 240, .ref 241, .ref 242, .ref 243, .ref 244, .ref 245, .ref 246, .ref 247, .ref 248, .ref 249, .ref 250, .ref 251, .ref 252, .ref 253, .ref 254, .ref 255, .ref 256, .ref 257, .ref 258], vm := .none },
  { cls := 10, slots := #[.int (-128)], vm := .none },
  { cls := 10, slots := #[.int (-127)], vm := .none },
  { cls := 10, slots := #[.int (-126)], vm := .none },
  { cls := 10, slots := #[.int (-125)], vm := .none },
  { cls := 10, slots := #[.int (-124)], vm := .none },
  { cls := 10, slots := #[.int (-123)], vm := .none },
  { cls := 10, slots := #[.int (-122)], vm := .none },
  { cls := 10, slots := #[.int (-121)], vm := .none },
  { cls := 10, slots := #[.int (-120)], vm := .none },
  { cls := 10, slots := #[.int (-119)], vm := .none },
  { cls := 10, slots := #[.int (-118)], vm := .none },
  { cls := 10, slots := #[.int (-117)], vm := .none },
  { cls := 10, slots := #[.int (-116)], vm := .none },
  { cls := 10, slots := #[.int (-115)], vm := .none },
  { cls := 10, slots := #[.int (-114)], vm := .none },
  { cls := 10, slots := #[.int (-113)], vm := .none },
  { cls := 10, slots := #[.int (-112)], vm := .none },
  { cls := 10, slots := #[.int (-111)], vm := .none },
  { cls := 10, slots := #[.int (-110)], vm := .none },
  { cls := 10, slots := #[.int (-109)], vm := .none },
  { cls := 10, slots := #[.int (-108)], vm := .none },
  { cls := 10, slots := #[.int (-107)], vm := .none },
  { cls := 10, slots := #[.int (-106)], vm := .none },
  { cls := 10, slots := #[.int (-105)], vm := .none },
  { cls := 10, slots := #[.int (-104)], vm := .none },
  { cls := 10, slots := #[.int (-103)], vm := .none },
  { cls := 10, slots := #[.int (-102)], vm := .none },
  { cls := 10, slots := #[.int (-101)], vm := .none },
  { cls := 10, slots := #[.int (-100)], vm := .none },
  { cls := 10, slots := #[.int (-99)], vm := .none },
  { cls := 10, slots := #[.int (-98)], vm := .none },
  { cls := 10, slots := #[.int (-97)], vm := .none },
  { cls := 10, slots := #[.int (-96)], vm := .none },
  { cls := 10, slots := #[.int (-95)], vm := .none },
  { cls := 10, slots := #[.int (-94)], vm := .none },
  { cls := 10, slots := #[.int (-93)], vm := .none },
  { cls := 10, slots := #[.int (-92)], vm := .none },
  { cls := 10, slots := #[.int (-91)], vm := .none },
  { cls := 10, slots := #[.int (-90)], vm := .none },
  { cls := 10, slots := #[.int (-89)], vm := .none },
  { cls := 10, slots := #[.int (-88)], vm := .none },
  { cls := 10, slots := #[.int (-87)], vm := .none },
  { cls := 10, slots := #[.int (-86)], vm := .none },
  { cls := 10, slots := #[.int (-85)], vm := .none },
  { cls := 10, slots := #[.int (-84)], vm := .none },
  { cls := 10, slots := #[.int (-83)], vm := .none },
  { cls := 10, slots := #[.int (-82)], vm := .none },
  { cls := 10, slots := #[.int (-81)], vm := .none },
  { cls := 10, slots := #[.int (-80)], vm := .none },
  { cls := 10, slots := #[.int (-79)], vm := .none },
  { cls := 10, slots := #[.int (-78)], vm := .none },
  { cls := 10, slots := #[.int (-77)], vm := .none },
  { cls := 10, slots := #[.int (-76)], vm := .none },
  { cls := 10, slots := #[.int (-75)], vm := .none },
  { cls := 10, slots := #[.int (-74)], vm := .none },
  { cls := 10, slots := #[.int (-73)], vm := .none },
  { cls := 10, slots := #[.int (-72)], vm := .none },
  { cls := 10, slots := #[.int (-71)], vm := .none },
  { cls := 10, slots := #[.int (-70)], vm := .none },
  { cls := 10, slots := #[.int (-69)], vm := .none },
  { cls := 10, slots := #[.int (-68)], vm := .none },
  { cls := 10, slots := #[.int (-67)], vm := .none },
  { cls := 10, slots := #[.int (-66)], vm := .none },
  { cls := 10, slots := #[.int (-65)], vm := .none },
  { cls := 10, slots := #[.int (-64)], vm := .none },
  { cls := 10, slots := #[.int (-63)], vm := .none },
  { cls := 10, slots := #[.int (-62)], vm := .none },
  { cls := 10, slots := #[.int (-61)], vm := .none },
  { cls := 10, slots := #[.int (-60)], vm := .none },
  { cls := 10, slots := #[.int (-59)], vm := .none },
  { cls := 10, slots := #[.int (-58)], vm := .none },
  { cls := 10, slots := #[.int (-57)], vm := .none },
  { cls := 10, slots := #[.int (-56)], vm := .none },
  { cls := 10, slots := #[.int (-55)], vm := .none },
  { cls := 10, slots := #[.int (-54)], vm := .none },
  { cls := 10, slots := #[.int (-53)], vm := .none },
  { cls := 10, slots := #[.int (-52)], vm := .none },
  { cls := 10, slots := #[.int (-51)], vm := .none },
  { cls := 10, slots := #[.int (-50)], vm := .none },
  { cls := 10, slots := #[.int (-49)], vm := .none },
  { cls := 10, slots := #[.int (-48)], vm := .none },
  { cls := 10, slots := #[.int (-47)], vm := .none },
  { cls := 10, slots := #[.int (-46)], vm := .none },
  { cls := 10, slots := #[.int (-45)], vm := .none },
  { cls := 10, slots := #[.int (-44)], vm := .none },
  { cls := 10, slots := #[.int (-43)], vm := .none },
  { cls := 10, slots := #[.int (-42)], vm := .none },
  { cls := 10, slots := #[.int (-41)], vm := .none },
  { cls := 10, slots := #[.int (-40)], vm := .none },
  { cls := 10, slots := #[.int (-39)], vm := .none },
  { cls := 10, slots := #[.int (-38)], vm := .none },
  { cls := 10, slots := #[.int (-37)], vm := .none },
  { cls := 10, slots := #[.int (-36)], vm := .none },
  { cls := 10, slots := #[.int (-35)], vm := .none },
  { cls := 10, slots := #[.int (-34)], vm := .none },
  { cls := 10, slots := #[.int (-33)], vm := .none },
  { cls := 10, slots := #[.int (-32)], vm := .none },
  { cls := 10, slots := #[.int (-31)], vm := .none },
  { cls := 10, slots := #[.int (-30)], vm := .none },
  { cls := 10, slots := #[.int (-29)], vm := .none },
  { cls := 10, slots := #[.int (-28)], vm := .none },
  { cls := 10, slots := #[.int (-27)], vm := .none },
  { cls := 10, slots := #[.int (-26)], vm := .none },
  { cls := 10, slots := #[.int (-25)], vm := .none },
  { cls := 10, slots := #[.int (-24)], vm := .none },
  { cls := 10, slots := #[.int (-23)], vm := .none },
  { cls := 10, slots := #[.int (-22)], vm := .none },
  { cls := 10, slots := #[.int (-21)], vm := .none },
  { cls := 10, slots := #[.int (-20)], vm := .none },
  { cls := 10, slots := #[.int (-19)], vm := .none },
  { cls := 10, slots := #[.int (-18)], vm := .none },
  { cls := 10, slots := #[.int (-17)], vm := .none },
  { cls := 10, slots := #[.int (-16)], vm := .none },
  { cls := 10, slots := #[.int (-15)], vm := .none },
  { cls := 10, slots := #[.int (-14)], vm := .none },
  { cls := 10, slots := #[.int (-13)], vm := .none },
  { cls := 10, slots := #[.int (-12)], vm := .none },
  { cls := 10, slots := #[.int (-11)], vm := .none },
  { cls := 10, slots := #[.int (-10)], vm := .none },
  { cls := 10, slots := #[.int (-9)], vm := .none },
  { cls := 10, slots := #[.int (-8)], vm := .none },
  { cls := 10, slots := #[.int (-7)], vm := .none },
  { cls := 10, slots := #[.int (-6)], vm := .none },
  { cls := 10, slots := #[.int (-5)], vm := .none },
  { cls := 10, slots := #[.int (-4)], vm := .none },
  { cls := 10, slots := #[.int (-3)], vm := .none },
  { cls := 10, slots := #[.int (-2)], vm := .none },
  { cls := 10, slots := #[.int (-1)], vm := .none },
  { cls := 10, slots := #[.int 0], vm := .none },
  { cls := 10, slots := #[.int 1], vm := .none },
  { cls := 10, slots := #[.int 2], vm := .none },
  { cls := 10, slots := #[.int 3], vm := .none },
  { cls := 10, slots := #[.int 4], vm := .none },
  { cls := 10, slots := #[.int 5], vm := .none },
  { cls := 10, slots := #[.int 6], vm := .none },
  { cls := 10, slots := #[.int 7], vm := .none },
  { cls := 10, slots := #[.int 8], vm := .none },
  { cls := 10, slots := #[.int 9], vm := .none },
  { cls := 10, slots := #[.int 10], vm := .none },
  { cls := 10, slots := #[.int 11], vm := .none },
  { cls := 10, slots := #[.int 12], vm := .none },
  { cls := 10, slots := #[.int 13], vm := .none },
  { cls := 10, slots := #[.int 14], vm := .none },
  { cls := 10, slots := #[.int 15], vm := .none },
  { cls := 10, slots := #[.int 16], vm := .none },
  { cls := 10, slots := #[.int 17], vm := .none },
  { cls := 10, slots := #[.int 18], vm := .none },
  { cls := 10, slots := #[.int 19], vm := .none },
  { cls := 10, slots := #[.int 20], vm := .none },
  { cls := 10, slots := #[.int 21], vm := .none },
  { cls := 10, slots := #[.int 22], vm := .none },
  { cls := 10, slots := #[.int 23], vm := .none },
  { cls := 10, slots := #[.int 24], vm := .none },
  { cls := 10, slots := #[.int 25], vm := .none },
  { cls := 10, slots := #[.int 26], vm := .none },
  { cls := 10, slots := #[.int 27], vm := .none },
  { cls := 10, slots := #[.int 28], vm := .none },
  { cls := 10, slots := #[.int 29], vm := .none },
  { cls := 10, slots := #[.int 30], vm := .none },
  { cls := 10, slots := #[.int 31], vm := .none },
  { cls := 10, slots := #[.int 32], vm := .none },
  { cls := 10, slots := #[.int 33], vm := .none },
  { cls := 10, slots := #[.int 34], vm := .none },
  { cls := 10, slots := #[.int 35], vm := .none },
  { cls := 10, slots := #[.int 36], vm := .none },
  { cls := 10, slots := #[.int 37], vm := .none },
  { cls := 10, slots := #[.int 38], vm := .none },
  { cls := 10, slots := #[.int 39], vm := .none },
  { cls := 10, slots := #[.int 40], vm := .none },
  { cls := 10, slots := #[.int 41], vm := .none },
  { cls := 10, slots := #[.int 42], vm := .none },
  { cls := 10, slots := #[.int 43], vm := .none },
  { cls := 10, slots := #[.int 44], vm := .none },
  { cls := 10, slots := #[.int 45], vm := .none },
  { cls := 10, slots := #[.int 46], vm := .none },
  { cls := 10, slots := #[.int 47], vm := .none },
  { cls := 10, slots := #[.int 48], vm := .none },
  { cls := 10, slots := #[.int 49], vm := .none },
  { cls := 10, slots := #[.int 50], vm := .none },
  { cls := 10, slots := #[.int 51], vm := .none },
  { cls := 10, slots := #[.int 52], vm := .none },
  { cls := 10, slots := #[.int 53], vm := .none },
  { cls := 10, slots := #[.int 54], vm := .none },
  { cls := 10, slots := #[.int 55], vm := .none },
  { cls := 10, slots := #[.int 56], vm := .none },
  { cls := 10, slots := #[.int 57], vm := .none },
  { cls := 10, slots := #[.int 58], vm := .none },
  { cls := 10, slots := #[.int 59], vm := .none },
  { cls := 10, slots := #[.int 60], vm := .none },
  { cls := 10, slots := #[.int 61], vm := .none },
  { cls := 10, slots := #[.int 62], vm := .none },
  { cls := 10, slots := #[.int 63], vm := .none },
  { cls := 10, slots := #[.int 64], vm := .none },
  { cls := 10, slots := #[.int 65], vm := .none },
  { cls := 10, slots := #[.int 66], vm := .none },
  { cls := 10, slots := #[.int 67], vm := .none },
  { cls := 10, slots := #[.int 68], vm := .none },
  { cls := 10, slots := #[.int 69], vm := .none },
  { cls := 10, slots := #[.int 70], vm := .none },
  { cls := 10, slots := #[.int 71], vm := .none },
  { cls := 10, slots := #[.int 72], vm := .none },
  { cls := 10, slots := #[.int 73], vm := .none },
  { cls := 10, slots := #[.int 74], vm := .none },
  { cls := 10, slots := #[.int 75], vm := .none },
  { cls := 10, slots := #[.int 76], vm := .none },
  { cls := 10, slots := #[.int 77], vm := .none },
  { cls := 10, slots := #[.int 78], vm := .none },
  { cls := 10, slots := #[.int 79], vm := .none },
  { cls := 10, slots := #[.int 80], vm := .none },
  { cls := 10, slots := #[.int 81], vm := .none },
  { cls := 10, slots := #[.int 82], vm := .none },
  { cls := 10, slots := #[.int 83], vm := .none },
  { cls := 10, slots := #[.int 84], vm := .none },
  { cls := 10, slots := #[.int 85], vm := .none },
  { cls := 10, slots := #[.int 86], vm := .none },
  { cls := 10, slots := #[.int 87], vm := .none },
  { cls := 10, slots := #[.int 88], vm := .none },
  { cls := 10, slots := #[.int 89], vm := .none },
  { cls := 10, slots := #[.int 90], vm := .none },
  { cls := 10, slots := #[.int 91], vm := .none },
  { cls := 10, slots := #[.int 92], vm := .none },
  { cls := 10, slots := #[.int 93], vm := .none },
  { cls := 10, slots := #[.int 94], vm := .none },
  { cls := 10, slots := #[.int 95], vm := .none },
  { cls := 10, slots := #[.int 96], vm := .none },
  { cls := 10, slots := #[.int 97], vm := .none },
  { cls := 10, slots := #[.int 98], vm := .none },
  { cls := 10, slots := #[.int 99], vm := .none },
  { cls := 10, slots := #[.int 100], vm := .none },
  { cls := 10, slots := #[.int 101], vm := .none },
  { cls := 10, slots := #[.int 102], vm := .none },
  { cls := 10, slots := #[.int 103], vm := .none },
  { cls := 10, slots := #[.int 104], vm := .none },
  { cls := 10, slots := #[.int 105], vm := .none },
  { cls := 10, slots := #[.int 106], vm := .none },
  { cls := 10, slots := #[.int 107], vm := .none },
  { cls := 10, slots := #[.int 108], vm := .none },
  { cls := 10, slots := #[.int 109], vm := .none },
  { cls := 10, slots := #[.int 110], vm := .none },
  { cls := 10, slots := #[.int 111], vm := .none },
  { cls := 10, slots := #[.int 112], vm := .none },
  { cls := 10, slots := #[.int 113], vm := .none },
  { cls := 10, slots := #[.int 114], vm := .none },
  { cls := 10, slots := #[.int 115], vm := .none },
  { cls := 10, slots := #[.int 116], vm := .none },
  { cls := 10, slots := #[.int 117], vm := .none },
  { cls := 10, slots := #[.int 118], vm := .none },
  { cls := 10, slots := #[.int 119], vm := .none },
  { cls := 10, slots := #[.int 120], vm := .none },
  { cls := 10, slots := #[.int 121], vm := .none },
  { cls := 10, slots := #[.int 122], vm := .none },
  { cls := 10, slots := #[.int 123], vm := .none },
  { cls := 10, slots := #[.int 124], vm := .none },
  { cls := 10, slots := #[.int 125], vm := .none },
  { cls := 10, slots := #[.int 126], vm := .none },
  { cls := 10, slots := #[.int 127], vm := .none },
  { cls := 6, slots := #[.null, .int 0, .int 0, .int 0, .null, .int 0, .null], vm := .none },
  { cls := 6, slots := #[.null, .int 1, .int 0, .int 0, .null, .int 0, .null], vm := .none }]
def classes : Array Class := #[k0, k1, k2, k3, k4, k5, k6, k7, k8, k9, k10, k11, k12, k13, k14, k15, k16, k17]
def interned : List (Array UInt16 × Addr) := []
def slotsUsed : Nat := 534
def theMethod : MethodId := ⟨1, 2⟩
def args0 : Array Value := #[.int 1, .int 2, .int 3, .int 4, .int 5, .int 6]
def aboutOver (below : List Frame) : State where
  vm := { classes := classes, interned := interned.toArray }
  heap := heap
  slotsUsed := slotsUsed
  threads := #[{ frames := .invoking theMethod args0 :: below }]
def below0 : List Frame := [.native { method := ⟨0, 0⟩, args := #[] }]
def about1 : State := aboutOver below0
def p0 : Program := .bare "" "" ""
def e0 : Env := launch0.env 0 0 0
theorem w_frames : about1.frames = Frame.invoking theMethod args0 :: below0 := rfl
set_option maxRecDepth 65536 in
theorem w_args : argsFit about1.vm theMethod args0 = true := by decide +kernel
set_option maxRecDepth 65536 in
theorem w_heap : heapFits about1 = true := by decide +kernel
set_option maxRecDepth 65536 in
theorem w_runnable : about1.curStatus? = some .runnable := by decide +kernel
set_option maxRecDepth 65536 in
theorem w_alone : about1.alone = true := by decide +kernel
set_option maxRecDepth 65536 in
theorem w_named : about1.methodNamed? x = some theMethod := by decide +kernel
set_option maxRecDepth 65536 in
theorem w_hears : about1.hears theMethod below0 = true := by decide +kernel
set_option maxRecDepth 65536 in
theorem w_ripe : about1.ripe theMethod args0 below0 = true := by decide +kernel
theorem w_running : about1.status = .running := rfl
set_option maxRecDepth 65536 in
theorem w_room : about1.hasRoom e0.platform room_1 = true :=
  launch0.hasRoom_least _ room_1 (by decide +kernel) (by decide +kernel) (by decide +kernel) (by decide +kernel) (by decide +kernel) (by decide +kernel)
theorem allAtoms_all (ts : List Jvm.Cond) (a : Array Jvm.Value) (st : Jvm.State) : (allAtoms ts).before a st = ts.all (fun c => c.before a st) := by
  induction ts with
  | nil => rfl
  | cons c t ih =>
    show (Jvm.Cond.and c (allAtoms t)).before a st = _
    rw [Jvm.Cond.before_and, ih, List.all_cons]
def words1 : List Jvm.Cond := Jvm.Cond.code x code maxLocals ret :: tables_1
/-- a 'code' word, met by the world's own term for the bytes: nothing is compared byte by byte -/
theorem code_word {y : MethodName} {bytes : ByteArray} {mx : Nat} {rt : Option FieldType} {a : Array Value} {s : State} {m : MethodId} {meth : Method} {c : Code} (h1 : s.methodNamed? y = some m) (h2 : s.vm.method? m = some meth) (h3 : meth.code = some c) (h4 : c.code = bytes)
    (h5 : (c.maxLocals == mx && c.exceptionTable.isEmpty && decide (c.maxStack ≤ mostOperands) && decide (meth.sig.returnType = rt) && !meth.locks && decide (parseMethodDescriptor y.desc = some meth.sig)) = true) : (Jvm.Cond.code y bytes mx rt).before a s = true := by
  simp only [Bool.and_eq_true, beq_iff_eq, Bool.not_eq_true', decide_eq_true_eq] at h5
  obtain ⟨⟨⟨⟨⟨g1, g2⟩, g3⟩, g4⟩, g5⟩, g6⟩ := h5
  simp [Cond.before, Cond.holds, Cond.value, h1, h2, h3, h4, g1, g2, g3, g4, g5, g6]
def isCode : Jvm.Cond → Bool
  | .code _ _ _ _ => true
  | _ => false
theorem all_split {L : List Jvm.Cond} {P : Jvm.Cond → Bool} (h1 : L.all (fun c => isCode c || P c) = true) (h2 : ∀ c ∈ L.filter isCode, P c = true) : L.all P = true := by
  refine List.all_eq_true.mpr fun c hc => ?_
  have h := List.all_eq_true.mp h1 c hc
  rcases Bool.eq_false_or_eq_true (isCode c) with hi | hi
  · exact h2 c (List.mem_filter.mpr ⟨hc, hi⟩)
  · simpa [hi] using h
set_option maxRecDepth 65536 in
theorem w_c0 : (Jvm.Cond.code x code maxLocals ret).before args0 about1 = true := code_word (m := ⟨1, 2⟩) (meth := k1m2) (c := k1c2) (by decide +kernel) rfl rfl rfl (by decide +kernel)
set_option maxRecDepth 65536 in
theorem w_c1 : (Jvm.Cond.code ({ cls := "com/example/farcall/farcall/service/BindingKeyEqualsPinLaw", name := "pick", desc := "(I)Lcom/example/farcall/farcall/io/Transport;" } : Jvm.MethodName) method_2_code (1 : Nat) (Option.some (Jvm.ClassFile.FieldType.object "com/example/farcall/farcall/io/Transport"))).before args0 about1 = true := code_word (m := ⟨1, 1⟩) (meth := k1m1) (c := k1c1) (by decide +kernel) rfl rfl rfl (by decide +kernel)
set_option maxRecDepth 65536 in
theorem w_c2 : (Jvm.Cond.code ({ cls := "com/example/farcall/farcall/service/BindingKey", name := "<init>", desc := "(IILcom/example/farcall/farcall/io/Transport;)V" } : Jvm.MethodName) prog_64_method_1_code (4 : Nat) (Option.none : Option Jvm.ClassFile.FieldType)).before args0 about1 = true := code_word (m := ⟨7, 0⟩) (meth := k7m0) (c := k7c0) (by decide +kernel) rfl rfl rfl (by decide +kernel)
set_option maxRecDepth 65536 in
theorem w_c3 : (Jvm.Cond.code ({ cls := "java/lang/Object", name := "<init>", desc := "()V" } : Jvm.MethodName) object_method_1_code (1 : Nat) (Option.none : Option Jvm.ClassFile.FieldType)).before args0 about1 = true := code_word (m := ⟨0, 0⟩) (meth := k0m0) (c := k0c0) (by decide +kernel) rfl rfl rfl (by decide +kernel)
set_option maxRecDepth 65536 in
theorem w_c4 : (Jvm.Cond.code ({ cls := "com/example/farcall/farcall/service/BindingKey", name := "equals", desc := "(Ljava/lang/Object;)Z" } : Jvm.MethodName) prog_64_method_5_code (3 : Nat) (Option.some Jvm.ClassFile.FieldType.boolean)).before args0 about1 = true := code_word (m := ⟨7, 1⟩) (meth := k7m1) (c := k7c1) (by decide +kernel) rfl rfl rfl (by decide +kernel)
set_option maxRecDepth 65536 in
theorem w_c5 : (Jvm.Cond.code ({ cls := "java/lang/Integer", name := "valueOf", desc := "(I)Ljava/lang/Integer;" } : Jvm.MethodName) jdk_33_method_22_code (1 : Nat) (Option.some (Jvm.ClassFile.FieldType.object "java/lang/Integer"))).before args0 about1 = true := code_word (m := ⟨10, 0⟩) (meth := k10m0) (c := k10c0) (by decide +kernel) rfl rfl rfl (by decide +kernel)
set_option maxRecDepth 65536 in
theorem w_c6 : (Jvm.Cond.code ({ cls := "java/lang/Integer", name := "<init>", desc := "(I)V" } : Jvm.MethodName) jdk_33_method_23_code (2 : Nat) (Option.none : Option Jvm.ClassFile.FieldType)).before args0 about1 = true := code_word (m := ⟨10, 1⟩) (meth := k10m1) (c := k10c1) (by decide +kernel) rfl rfl rfl (by decide +kernel)
set_option maxRecDepth 65536 in
theorem w_c7 : (Jvm.Cond.code ({ cls := "java/lang/Number", name := "<init>", desc := "()V" } : Jvm.MethodName) jdk_18_method_1_code (1 : Nat) (Option.none : Option Jvm.ClassFile.FieldType)).before args0 about1 = true := code_word (m := ⟨8, 0⟩) (meth := k8m0) (c := k8c0) (by decide +kernel) rfl rfl rfl (by decide +kernel)
def codes1 : List Jvm.Cond := [Jvm.Cond.code x code maxLocals ret, Jvm.Cond.code ({ cls := "com/example/farcall/farcall/service/BindingKeyEqualsPinLaw", name := "pick", desc := "(I)Lcom/example/farcall/farcall/io/Transport;" } : Jvm.MethodName) method_2_code (1 : Nat) (Option.some (Jvm.ClassFile.FieldType.object "com/example/farcall/farcall/io/Transport")), Jvm.Cond.code ({ cls := "com/example/farcall/farcall/service/BindingKey", name := "<init>", desc := "(IILcom/example/farcall/farcall/io/Transport;)V" } : Jvm.MethodName) prog_64_method_1_code (4 : Nat) (Option.none : Option Jvm.ClassFile.FieldType), Jvm.Cond.code ({ cls := "java/lang/Object", name := "<init>", desc := "()V" } : Jvm.MethodName) object_method_1_code (1 : Nat) (Option.none : Option Jvm.ClassFile.FieldType), Jvm.Cond.code ({ cls := "com/example/farcall/farcall/service/BindingKey", name := "equals", desc := "(Ljava/lang/Object;)Z" } : Jvm.MethodName) prog_64_method_5_code (3 : Nat) (Option.some Jvm.ClassFile.FieldType.boolean), Jvm.Cond.code ({ cls := "java/lang/Integer", name := "valueOf", desc := "(I)Ljava/lang/Integer;" } : Jvm.MethodName) jdk_33_method_22_code (1 : Nat) (Option.some (Jvm.ClassFile.FieldType.object "java/lang/Integer")), Jvm.Cond.code ({ cls := "java/lang/Integer", name := "<init>", desc := "(I)V" } : Jvm.MethodName) jdk_33_method_23_code (2 : Nat) (Option.none : Option Jvm.ClassFile.FieldType), Jvm.Cond.code ({ cls := "java/lang/Number", name := "<init>", desc := "()V" } : Jvm.MethodName) jdk_18_method_1_code (1 : Nat) (Option.none : Option Jvm.ClassFile.FieldType)]
set_option maxRecDepth 65536 in
theorem codes_eq : words1.filter isCode = codes1 := rfl
theorem w_codes : ∀ c ∈ words1.filter isCode, c.before args0 about1 = true := by
  rw [codes_eq]
  intro c hc
  simp only [codes1, List.mem_cons, List.not_mem_nil, or_false] at hc
  rcases hc with rfl | rfl | rfl | rfl | rfl | rfl | rfl | rfl
  · exact w_c0
  · exact w_c1
  · exact w_c2
  · exact w_c3
  · exact w_c4
  · exact w_c5
  · exact w_c6
  · exact w_c7
set_option maxRecDepth 65536 in
theorem w_t1 : (words1.take 24).all (fun c => isCode c || c.before args0 about1) = true := by decide +kernel
set_option maxRecDepth 65536 in
theorem w_t2 : ((words1.drop 24).take 24).all (fun c => isCode c || c.before args0 about1) = true := by decide +kernel
set_option maxRecDepth 65536 in
theorem w_t3 : ((words1.drop 24).drop 24).all (fun c => isCode c || c.before args0 about1) = true := by decide +kernel
theorem w_tables : (allAtoms (Jvm.Cond.code x code maxLocals ret :: tables_1)).before args0 about1 = true := by
  rw [allAtoms_all]
  show words1.all (fun c => c.before args0 about1) = true
  refine all_split ?_ w_codes
  rw [← List.take_append_drop 24 words1, List.all_append, w_t1, ← List.take_append_drop 24 (words1.drop 24), List.all_append, w_t2, w_t3]
  rfl
set_option maxRecDepth 65536 in
theorem w_rest : rest_1_c.before args0 about1 = true := by decide +kernel
set_option maxRecDepth 65536 in
theorem w_case : (Jvm.Cond.and given_1 narrow_1).before args0 about1 = true := by decide +kernel
theorem w_applies : (headSpec (Jvm.Cond.code x code maxLocals ret :: tables_1) room_1).applies x e0.platform about1 = true :=
  (Spec.applies_iff w_frames).mpr ⟨w_running, w_runnable, w_alone, w_named, w_hears, w_ripe, w_room, w_tables⟩
theorem atStart : AtStart classFile x code maxLocals ret World_1 tables_1 room_1 Calls_1 rest_1 Pre_1 launch0 p0 e0 about1 theMethod args0 below0 :=
  ⟨lists_1, trivial, launch0.admits_env _ _ _, launch0.least_env, fairChoices_fair.cas, fairChoices_fair.clock, w_frames, w_args, w_heap, w_applies, trivial, w_rest, w_case⟩
end start1
theorem witness_1 : WitnessClaimed_1 := ⟨start1.p0, start1.e0, start1.about1, start1.theMethod, start1.args0, start1.below0, start1.atStart⟩
end Jvm.Pilot.@@N@@
